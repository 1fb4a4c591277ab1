/- strconv's decimal: Shift, shouldRoundUp, RoundedInteger. The cheat sheet of the left shift: what its rows say. -/
import Derived.Test.YtnggkkdcddpjlaaGreatDoorZ04
import Derived.Test.YtnggkkdcddpjlaaGreatDoorZ05
import GoSem.PinnedTables
namespace Go.Proofs.YtnggkkdcddpjlaaGreatDoor
open Go.RowKit
set_option maxRecDepth 100000
set_option linter.unusedVariables false
set_option linter.unusedSimpArgs false
set_option maxHeartbeats 1000000 in
theorem shift_left (k D : Nat) (s : ByteArray) (hC : Cheat k (p2 k) D s.size (byt s)) (hs : s.size ≤ 100) (hk1 : 1 ≤ k) (hk60 : k ≤ 60) (hD20 : D ≤ 20) (x : Dec) (hx : DecI x) (hp0 : -1000000 ≤ x.dp) (hp1 : x.dp ≤ 1000000) (B b : Nat) (hB : B ≤ b) (w : World) (h : DecAt w b x) (hrow : LeftRow B w k D s) :
    Calls Tryz.prog 207 #[.pointer (some ⟨b, 0, none⟩), .int .i64 k] w (Turned B b w (lsX (p2 k) (newD x.d (byt s) x.nd D s.size) x)) := by
  have HL := Lib.hid (ls_run k D s hC hs hk1 hk60 hD20 x hx hp0 hp1 B b hB w h hrow)
  obtain ⟨Y, hY⟩ : ∃ Y, Y = lsX (p2 k) (newD x.d (byt s) x.nd D s.size) x := ⟨_, rfl⟩
  rw [← hY] at HL ⊢
  obtain ⟨Q, hQ⟩ : ∃ Q, Q = Turned B b w Y := ⟨_, rfl⟩
  have HQ := Lib.hid hQ
  rw [← hQ]
  have hnd := h.nd
  have hnd0 := hx.nd0
  have hne : ((x.nd : Int) == 0) = false := by simp; omega
  clear hQ hC hx h hrow hY
  go_enter Tryz.func207, Tryz.ntmps207
  go_wp2_with fail
  go_loopg [1] 0 (fun f sk wr => sk = .int .i64 k ∧ w = wr)
  case atStart => exact ⟨rfl, rfl⟩
  case round =>
    obtain ⟨rfl, rfl⟩ := hrel
    have hk60' : ¬ (60 : Int) < k := by omega
    go_wp2_with (go_at_call 232; refine HL.out.mono ?_; rintro r w1 ⟨rfl, h9, h10⟩)
    go_end0
    rw [HQ.out]
    exact ⟨rfl, h9, h10⟩
set_option maxHeartbeats 1000000 in
theorem shift_right (f n : Nat) (h1 : 1 ≤ n) (h2 : n ≤ 60 * f + 60) (hf : f ≤ 4000) (x : Dec) (hx : DecI x) (hp0 : -100000 ≤ x.dp) (hp1 : x.dp ≤ 100000) (B b : Nat) (hB : B ≤ b) (w : World) (h : DecAt w b x) :
    Calls Tryz.prog 207 #[.pointer (some ⟨b, 0, none⟩), .int .i64 (-(n : Int))] w (Turned B b w (shR f n x)) := by
  obtain ⟨Y, hY⟩ : ∃ Y, Y = shR f n x := ⟨_, rfl⟩
  rw [← hY]
  have HY := Lib.hid hY
  obtain ⟨Q, hQ⟩ : ∃ Q, Q = Turned B b w Y := ⟨_, rfl⟩
  have HQ := Lib.hid hQ
  rw [← hQ]
  have H := Lib.hid h
  have HX := Lib.hid hx
  have hnd := h.nd
  have hnd0 := hx.nd0
  have hne : ((x.nd : Int) == 0) = false := by simp; omega
  have hgt : decide ((0 : Int) < -(n : Int)) = false := by simp
  have hlt : decide (-(n : Int) < (0 : Int)) = true := by simp; omega
  have hlt2 : decide (0 < n) = true := by simp; omega
  clear hQ hx h hY
  go_enter Tryz.func207, Tryz.ntmps207
  go_wp2_with fail
  clear hgt hlt hlt2 hne hnd
  go_loopg [1] f (fun f sk wr => ∃ (n : Nat) (y : Dec), sk = .int .i64 (-(n : Int)) ∧ 1 ≤ n ∧ n ≤ 60 * f + 60 ∧ DecI y ∧ x.dp - 19 * (4000 - f) ≤ y.dp ∧ y.dp ≤ x.dp ∧ Y = shR f n y ∧ DecAt wr b y ∧ Below B w wr)
  case atStart => exact ⟨n, x, rfl, h1, h2, HX.out, by omega, by omega, HY.out, H.out, Below.refl _ _⟩
  case round =>
    obtain ⟨n, y, rfl, h1, h2, h3, h4, h5, h6, h7, h8⟩ := hrel
    have H3 := Lib.hid h3
    have H6 := Lib.hid h6
    have H7 := Lib.hid h7
    have H8 := Lib.hid h8
    clear h3 h6 h7 h8
    by_cases hn : 60 < n
    · have hn' : -(n : Int) < -60 := by omega
      obtain ⟨f', rfl⟩ : ∃ f', gk = f' + 1 := ⟨gk - 1, by omega⟩
      have HR := Lib.hid (rs_run 60 (by decide) (by decide) y H3.out (by omega) (by omega) B b hB wr H7.out)
      obtain ⟨k1, k2⟩ := p2_small (n := 60) (by omega) (by omega)
      obtain ⟨a, b', c⟩ := rsX_ok (k := 60) k1 k2 H3.out
      obtain ⟨r1, r2, r3, r4⟩ := rsP_ok k1 k2 H3.out
      have HA := Lib.hid a
      have HB' := Lib.hid b'
      clear a b' c r1 r2 k1 k2
      go_wp2_with (go_at_call 233; refine HR.out.mono ?_; rintro r w1 ⟨rfl, h9, h10⟩)
      go_roundg f'
      case measure => omega
      case rel =>
        refine ⟨n - 60, rsX 60 (p2 60) y, congrArg (Value.int IntKind.i64) (by omega), by omega, by omega, HA.out, ?_, ?_, ?_, h9, H8.out.trans h10⟩
        · have := HB'.out
          omega
        · have := HB'.out
          omega
        · rw [H6.out, shR, if_pos hn]
    · have hn' : ¬ -(n : Int) < -60 := by omega
      have HR := Lib.hid (rs_run n h1 (by omega) y H3.out (by omega) (by omega) B b hB wr H7.out)
      have he : Y = rsX n (p2 n) y := by
        rw [H6.out]
        cases gk with
        | zero => rfl
        | succ f => rw [shR, if_neg hn]
      have HE := Lib.hid he
      clear he
      have hnn : -(-(n : Int)) = n := by omega
      go_wp2_with (go_at_call 233; refine HR.out.mono ?_; rintro r w1 ⟨rfl, h9, h10⟩)
      go_end0
      rw [HQ.out]
      refine ⟨rfl, ?_, H8.out.trans h10⟩
      rw [HE.out]
      exact h9
/-- Whether a decimal is to be rounded up at a place. -/
def sru (x : Dec) (z : Int) : Bool := if z < 0 ∨ (x.nd : Int) ≤ z then false else if x.d z.toNat = 53 ∧ z + 1 = x.nd then (x.tr || (decide (0 < z) && ((x.d (z.toNat - 1) - 48) % 2 != 0))) else decide (53 ≤ x.d z.toNat)
set_option maxHeartbeats 1000000 in
theorem sru_run (x : Dec) (hx : DecI x) (z : Int) (hz0 : -1000000 ≤ z) (hz1 : z ≤ 1000000) (b : Nat) (w : World) (h : DecAt w b x) :
    Calls Tryz.prog 234 #[.pointer (some ⟨b, 0, none⟩), .int .i64 z] w fun e w' => e = .returned (.bool (sru x z)) ∧ w' = w := by
  obtain ⟨R, hR⟩ : ∃ R, R = sru x z := ⟨_, rfl⟩
  rw [← hR]
  have HR := Lib.hid hR
  obtain ⟨Q, hQ⟩ : ∃ Q : Ending → World → Prop, Q = fun e w' => e = .returned (.bool R) ∧ w' = w := ⟨_, rfl⟩
  rw [← hQ]
  have HQ := Lib.hid hQ
  have hnd := h.nd
  have htr := h.tr
  have hnd0 := hx.nd0
  have hnd1 := hx.nd1
  have H := Lib.hid h
  have HD := Lib.hid hx.dig
  clear hR hQ hx h
  have hn0 : (0 : Int) ≤ x.nd := by omega
  have hn8 : (x.nd : Int) ≤ 800 := by omega
  by_cases c1 : z < 0
  · have hr : R = false := by rw [HR.out, sru, if_pos (Or.inl c1)]
    subst hr
    go_enter Tryz.func234, Tryz.ntmps234
    go_wp2_with fail
    all_goals
      rw [HQ.out]
      exact ⟨rfl, rfl⟩
  · by_cases c2 : (x.nd : Int) ≤ z
    · have hr : R = false := by rw [HR.out, sru, if_pos (Or.inr c2)]
      subst hr
      go_enter Tryz.func234, Tryz.ntmps234
      go_wp2_with fail
      all_goals
        rw [HQ.out]
        exact ⟨rfl, rfl⟩
    · obtain ⟨k, rfl⟩ : ∃ k : Nat, z = k := ⟨z.toNat, by omega⟩
      have hk : k < x.nd := by omega
      have hk8 : (k : Int) < 800 := by omega
      have hk0 : (0 : Int) ≤ k := by omega
      have hc := H.out.dg k (by omega)
      have hD := HD.out k hk
      have hD1 := hD.1
      have hD2 := hD.2
      clear hD
      have hr1 : R = if x.d k = 53 ∧ (k : Int) + 1 = x.nd then (x.tr || (decide (0 < (k : Int)) && ((x.d (k - 1) - 48) % 2 != 0))) else decide (53 ≤ x.d k) := by
        rw [HR.out, sru, if_neg (by omega)]
        rfl
      clear HR
      have HR := Lib.hid hr1
      clear hr1
      by_cases c3 : x.d k = 53
      · by_cases c4 : (k : Int) + 1 = x.nd
        · have hr : R = (x.tr || (decide (0 < (k : Int)) && ((x.d (k - 1) - 48) % 2 != 0))) := by rw [HR.out, if_pos ⟨c3, c4⟩]
          rw [c3] at hc
          have c4b : ((k : Int) + 1 == x.nd) = true := by simpa using c4
          have c4c : (k + 1 == x.nd) = true := by simp; omega
          clear HR c3 c4
          have HR := Lib.hid hr
          clear hr
          generalize x.tr = T at *
          cases T
          · by_cases c5 : 0 < k
            · have hc2 := H.out.dg (k - 1) (by omega)
              have hD := HD.out (k - 1) (by omega)
              have hE1 := hD.1
              have hE2 := hD.2
              clear hD
              have hr : R = ((x.d (k - 1) - 48) % 2 != 0) := by rw [HR.out]; simp [c5]
              subst hr
              clear HR
              have c6 : (0 : Int) < k := by omega
              have c7 : decide ((0 : Int) < k) = true := by simpa using c5
              have c8 : ((k : Int) - 1).toNat = k - 1 := by omega
              go_enter Tryz.func234, Tryz.ntmps234
              go_wp2_with fail
              all_goals
                rw [HQ.out]
                exact ⟨rfl, rfl⟩
            · have hr : R = false := by rw [HR.out]; simp; omega
              subst hr
              clear HR
              have c7 : decide ((0 : Int) < k) = false := by simp; omega
              go_enter Tryz.func234, Tryz.ntmps234
              go_wp2_with fail
              all_goals
                rw [HQ.out]
                exact ⟨rfl, rfl⟩
          · have hr : R = true := by rw [HR.out]; rfl
            subst hr
            clear HR
            go_enter Tryz.func234, Tryz.ntmps234
            go_wp2_with fail
            all_goals
              rw [HQ.out]
              exact ⟨rfl, rfl⟩
        · have hr : R = decide (53 ≤ x.d k) := by rw [HR.out, if_neg (fun e => c4 e.2)]
          have hr2 : R = true := by rw [hr, c3]; rfl
          subst hr2
          have c4b : ((k : Int) + 1 == x.nd) = false := by simpa using c4
          have c4c : (k + 1 == x.nd) = false := by simp; omega
          rw [c3] at hc
          clear HR hr c3 c4
          go_enter Tryz.func234, Tryz.ntmps234
          go_wp2_with fail
          all_goals
            rw [HQ.out]
            exact ⟨rfl, rfl⟩
      · have hr : R = decide (53 ≤ x.d k) := by rw [HR.out, if_neg (fun e => c3 e.1)]
        subst hr
        have c3b : (x.d k == 53) = false := by simpa using c3
        clear HR c3
        go_enter Tryz.func234, Tryz.ntmps234
        go_wp2_with fail
        all_goals
          rw [HQ.out]
          exact ⟨rfl, rfl⟩
/-- The whole part's digits, cut as 64 bits cut them. -/
def riF (x : Dec) : Nat → Nat → Int → Int
  | 0, i, n => n
  | j + 1, i, n => riF x j (i + 1) (if i < x.nd then IntKind.u64.wrap (IntKind.u64.wrap (n * 10) + (x.d i - 48)) else IntKind.u64.wrap (n * 10))
theorem u64_rng (z : Int) : 0 ≤ IntKind.u64.wrap z ∧ IntKind.u64.wrap z < 18446744073709551616 := by rw [IntKind.wrap_u64]; omega
theorem riF_in (x : Dec) : ∀ (j i : Nat) (n : Int), 0 ≤ n → n < 18446744073709551616 → 0 ≤ riF x j i n ∧ riF x j i n < 18446744073709551616
  | 0, i, n, h0, h1 => ⟨h0, h1⟩
  | j + 1, i, n, h0, h1 => by
    unfold riF
    refine riF_in x j (i + 1) _ ?_ ?_
    · split
      · exact (u64_rng _).1
      · exact (u64_rng _).1
    · split
      · exact (u64_rng _).2
      · exact (u64_rng _).2
def rint (x : Dec) : Int := if 20 < x.dp then 18446744073709551615 else if sru x x.dp = true then IntKind.u64.wrap (riF x x.dp.toNat 0 0 + 1) else riF x x.dp.toNat 0 0
theorem rint_in (x : Dec) : 0 ≤ rint x ∧ rint x < 18446744073709551616 := by
  unfold rint
  split
  · omega
  · split
    · exact u64_rng _
    · exact riF_in x _ _ 0 (by omega) (by omega)
set_option maxHeartbeats 1000000 in
theorem rint_run (x : Dec) (hx : DecI x) (hz0 : -1000000 ≤ x.dp) (hz1 : x.dp ≤ 1000000) (b : Nat) (w : World) (h : DecAt w b x) :
    Calls Tryz.prog 259 #[.pointer (some ⟨b, 0, none⟩)] w fun e w' => e = .returned (.int .u64 (rint x)) ∧ w' = w := by
  obtain ⟨R, hR⟩ : ∃ R, R = rint x := ⟨_, rfl⟩
  rw [← hR]
  have HR := Lib.hid hR
  obtain ⟨Q, hQ⟩ : ∃ Q : Ending → World → Prop, Q = fun e w' => e = .returned (.int .u64 R) ∧ w' = w := ⟨_, rfl⟩
  rw [← hQ]
  have HQ := Lib.hid hQ
  have hnd := h.nd
  have hdp := h.dp
  have hnd0 := hx.nd0
  have hnd1 := hx.nd1
  have H := Lib.hid h
  have HD := Lib.hid hx.dig
  have HS := Lib.hid (sru_run x hx x.dp hz0 hz1 b w h)
  clear hR hQ hx h
  have hn0 : (0 : Int) ≤ x.nd := by omega
  have hn8 : (x.nd : Int) ≤ 800 := by omega
  by_cases c1 : 20 < x.dp
  · have hr : R = 18446744073709551615 := by rw [HR.out, rint, if_pos c1]
    have HR2 := Lib.hid hr
    clear HR hr
    go_enter Tryz.func259, Tryz.ntmps259
    go_wp2_with fail
    rw [HQ.out, HR2.out]
    exact ⟨rfl, rfl⟩
  · have hr : R = if sru x x.dp = true then IntKind.u64.wrap (riF x x.dp.toNat 0 0 + 1) else riF x x.dp.toNat 0 0 := by rw [HR.out, rint, if_neg c1]
    clear HR
    generalize sru x x.dp = S at hr HS
    obtain ⟨F, hF⟩ : ∃ F, riF x x.dp.toNat 0 0 = F := ⟨_, rfl⟩
    rw [hF] at hr
    have HF := Lib.hid hF
    have HR := Lib.hid hr
    clear hr hF
    go_enter Tryz.func259, Tryz.ntmps259
    go_upto_block 0 with fail
    go_cut [3, 4] from 10 to 36 (fun si sn wr => w = wr ∧ ∃ (i j : Nat) (n : Int), si = .int .i64 i ∧ sn = .int .u64 n ∧ i + j = x.dp.toNat ∧ (x.nd ≤ i ∨ j = 0) ∧ 0 ≤ n ∧ n < 18446744073709551616 ∧ riF x j i n = F)
    case first =>
      go_wp2_with fail
      go_loopg [3, 4] x.dp.toNat (fun j si sn wr => ∃ (i : Nat) (n : Int), w = wr ∧ si = .int .i64 i ∧ sn = .int .u64 n ∧ i + j = x.dp.toNat ∧ i ≤ x.nd ∧ 0 ≤ n ∧ n < 18446744073709551616 ∧ riF x j i n = F)
      case atStart => exact ⟨0, 0, rfl, rfl, rfl, by omega, by omega, by omega, by omega, HF.out⟩
      case round =>
        obtain ⟨i, n, rfl, rfl, rfl, h1, h2, h3, h4, h5⟩ := hrel
        have H5 := Lib.hid h5
        clear h5
        cases gk with
        | zero =>
          have hge : decide ((i : Int) < x.dp) = false := by simp; omega
          go_wp2_with fail
          go_meet
          exact ⟨rfl, i, 0, n, rfl, rfl, by omega, Or.inr rfl, h3, h4, H5.out⟩
        | succ j =>
          have hge : decide ((i : Int) < x.dp) = true := by simp; omega
          have hge2 : (i : Int) < x.dp := by omega
          by_cases hi : i < x.nd
          · have hi2 : (i : Int) < x.nd := by omega
            have hi8 : (i : Int) < 800 := by omega
            have hi0 : (0 : Int) ≤ i := by omega
            have hc := H.out.dg i (by omega)
            have hD := HD.out i hi
            have hD1 := hD.1
            have hD2 := hD.2
            clear hD
            have H6 : Hid (riF x j (i + 1) (IntKind.u64.wrap (IntKind.u64.wrap (n * 10) + (x.d i - 48))) = F) := Lib.hid (by
              have h5 := H5.out
              rw [riF, if_pos hi] at h5
              exact h5)
            go_wp2_with fail
            go_roundg j
            case measure => omega
            case rel => exact ⟨i + 1, _, rfl, by simp, rfl, by omega, by omega, (u64_rng _).1, (u64_rng _).2, H6.out⟩
          · have hi2 : (x.nd : Int) ≤ i := by omega
            go_wp2_with fail
            go_meet
            exact ⟨rfl, i, j + 1, n, rfl, rfl, by omega, Or.inl (by omega), h3, h4, H5.out⟩
    case rest =>
      obtain ⟨rfl, i, j, n, rfl, rfl, h1, h2, h3, h4, h5⟩ := hcut
      have H5 := Lib.hid h5
      have HF' := HF
      clear h5 HF'
      go_wp2_with fail
      go_loopg [3, 4] j (fun j si sn wr => ∃ (i : Nat) (n : Int), w = wr ∧ si = .int .i64 i ∧ sn = .int .u64 n ∧ i + j = x.dp.toNat ∧ (x.nd ≤ i ∨ j = 0) ∧ 0 ≤ n ∧ n < 18446744073709551616 ∧ riF x j i n = F)
      case atStart => exact ⟨i, n, rfl, rfl, rfl, h1, h2, h3, h4, H5.out⟩
      case round =>
        clear h1 h2 h3 h4 H5
        obtain ⟨i, n, rfl, rfl, rfl, h1, h2, h3, h4, h5⟩ := hrel
        have H5 := Lib.hid h5
        clear h5
        cases gk with
        | zero =>
          have hge : decide ((i : Int) < x.dp) = false := by simp; omega
          have hn : n = F := H5.out
          subst hn
          cases S
          · have hr : R = n := by rw [HR.out]; rfl
            have HR2 := Lib.hid hr
            clear hr
            go_wp2_with (go_at_call 234; refine HS.out.mono ?_; rintro r w1 ⟨rfl, rfl⟩)
            rw [HQ.out, HR2.out]
            exact ⟨rfl, rfl⟩
          · have hr : R = IntKind.u64.wrap (n + 1) := by rw [HR.out]; rfl
            have HR2 := Lib.hid hr
            clear hr
            go_wp2_with (go_at_call 234; refine HS.out.mono ?_; rintro r w1 ⟨rfl, rfl⟩)
            rw [HQ.out, HR2.out]
            exact ⟨rfl, rfl⟩
        | succ j =>
          have hge : decide ((i : Int) < x.dp) = true := by simp; omega
          have hge2 : (i : Int) < x.dp := by omega
          have H6 : Hid (riF x j (i + 1) (IntKind.u64.wrap (n * 10)) = F) := Lib.hid (by
            have h5 := H5.out
            rw [riF, if_neg (by omega)] at h5
            exact h5)
          go_wp2_with fail
          go_roundg j
          case measure => omega
          case rel => exact ⟨i + 1, _, rfl, by simp, rfl, by omega, by omega, (u64_rng _).1, (u64_rng _).2, H6.out⟩
end Go.Proofs.YtnggkkdcddpjlaaGreatDoor
namespace Go.Proofs.YtnggkkdcddpjlaaGreatDoor
open Go.RowKit
set_option maxRecDepth 100000
set_option linter.unusedVariables false
def chRow (k : Nat) : Nat × List UInt8 := Pinned.cheatRows.getD k (0, [])
def chD (k : Nat) : Nat := (chRow k).1
def chS (k : Nat) : ByteArray := ⟨(chRow k).2.toArray⟩
def chL (k : Nat) : Nat := (chS k).size
def chC (k : Nat) : Nat → Int := byt (chS k)
def cheatB (k : Nat) : Bool :=
  decide (0 < chD k) && decide (0 < chL k) && decide (k + 1 = chD k + chL k) && (List.range (chL k)).all (fun i => decide (48 ≤ chC k i) && decide (chC k i ≤ 57)) && decide (chC k (chL k - 1) ≠ 48) && decide (p10 (chD k - 1) ≤ p2 k) && decide (p2 k < p10 (chD k)) && decide (p2 k * pv (val (chC k) (chL k)) (chL k) = p10 k) && decide (chL k ≤ 100) && decide (chD k ≤ 20)
theorem cheat_of {k : Nat} (h : cheatB k = true) : Cheat k (p2 k) (chD k) (chL k) (chC k) ∧ chL k ≤ 100 ∧ chD k ≤ 20 := by
  simp only [cheatB, Bool.and_eq_true, decide_eq_true_eq, List.all_eq_true, List.mem_range] at h
  obtain ⟨⟨⟨⟨⟨⟨⟨⟨⟨h1, h2⟩, h3⟩, h4⟩, h5⟩, h6⟩, h7⟩, h8⟩, h9⟩, h10⟩ := h
  exact ⟨⟨h1, h2, h3, fun i hi => h4 i hi, h5, h6, h7, h8⟩, h9, h10⟩
theorem cheat_all : ks12.all cheatB = true := by decide
theorem cheat_at {k : Nat} (h : k ∈ ks12) : Cheat k (p2 k) (chD k) (chL k) (chC k) ∧ chL k ≤ 100 ∧ chD k ≤ 20 := cheat_of (List.all_eq_true.1 cheat_all k h)
theorem sheet : Sheet chD chL chC ks12 := ⟨fun k h => (cheat_at h).1⟩
theorem chD_1 : chD 1 = 1 := by decide
theorem chD_3 : chD 3 = 1 := by decide
theorem chD_lo : ∀ k, k ∈ ks12 → k ≤ 27 → 4 ≤ k → 2 ≤ chD k := by decide
theorem chD_hi : ∀ k, k ∈ ks12 → k ≤ 27 → chD k ≤ 9 := by decide
end Go.Proofs.YtnggkkdcddpjlaaGreatDoor
