/- strconv's decimal: prefixIsLessThan and leftShift. -/
import Derived.Test.YtnggkkdcddpjlaaGreatDoorZ03
namespace Go.Proofs.YtnggkkdcddpjlaaGreatDoor
open Go.RowKit
set_option maxRecDepth 100000
set_option linter.unusedVariables false
set_option linter.unusedSimpArgs false
set_option maxHeartbeats 1000000 in
theorem plt_run (d : Nat → Int) (nd : Nat) (hnd : nd ≤ 800) (s : ByteArray) (hs : s.size ≤ 100) (b : Nat) (w : World) (hc : ∀ i, i < nd → w.cell? ⟨b, i, none⟩ = some (.int .u8 (d i))) :
    Calls Tryz.prog 254 #[.slice (some ⟨b, 0, none⟩) nd 800, .string s] w fun e w' => e = .returned (.bool (pltF d (byt s) nd s.size 0)) ∧ ∃ n, w' = w.drewN n := by
  have HC := Lib.hid hc
  have HB := Lib.hid (fun k (h : k < s.size) => byt_at h)
  obtain ⟨R, hR⟩ : ∃ R, R = pltF d (byt s) nd s.size 0 := ⟨_, rfl⟩
  rw [← hR]
  have HR := Lib.hid hR
  obtain ⟨Q, hQ⟩ : ∃ Q : Ending → World → Prop, Q = fun e w' => e = .returned (.bool R) ∧ ∃ n, w' = w.drewN n := ⟨_, rfl⟩
  rw [← hQ]
  have HQ := Lib.hid hQ
  clear hQ hR hc
  go_enter Tryz.func254, Tryz.ntmps254
  go_wp2_with fail
  go_loopg [5] s.size (fun j i wr => ∃ (k n : Nat), i = .int .i64 k ∧ k + j = s.size ∧ wr = w.drewN n ∧ pltF d (byt s) nd j k = R)
  case atStart => exact ⟨0, 0, rfl, by omega, rfl, HR.out.symm⟩
  case round =>
    obtain ⟨k, n, rfl, h1, rfl, h2⟩ := hrel
    have H2 := Lib.hid h2
    clear h2
    cases gk with
    | zero =>
      have hk : (s.size : Int) ≤ k := by omega
      go_wp2_with fail
      rw [HQ.out]
      exact ⟨by rw [← H2.out]; rfl, n, rfl⟩
    | succ j =>
      have hk : (k : Int) < s.size := by omega
      have hk' : k < s.size := by omega
      by_cases hn : nd ≤ k
      · have hn' : (nd : Int) ≤ k := by omega
        go_wp2_with fail
        rw [HQ.out]
        exact ⟨by rw [← H2.out, pltF, if_pos hn]; rfl, n, rfl⟩
      · have hn' : (k : Int) < nd := by omega
        have hn8 : (k : Int) < 800 := by omega
        have hcell := HC.out k (by omega)
        have hbk := HB.out k hk'
        obtain ⟨c, hcc⟩ : ∃ c, byt s k = c := ⟨_, rfl⟩
        rw [hcc] at hbk
        have HCC := Lib.hid hcc
        clear hcc
        have hk0 : (0 : Int) ≤ k := by omega
        obtain ⟨y, hy⟩ : ∃ y, d k = y := ⟨_, rfl⟩
        rw [hy] at hcell
        have HY := Lib.hid hy
        clear hy
        by_cases he : y = c
        · have hb : (y != c) = false := by simpa using he
          go_wp2_with fail
          go_quiet (fail)
          go_wp2_with fail
          go_roundg j
          case measure => omega
          case rel =>
            refine ⟨k + 1, _, by simp, by omega, rfl, ?_⟩
            have h2 := H2.out
            rw [pltF, if_neg hn, if_pos (by rw [HY.out, HCC.out]; exact he)] at h2
            exact h2
        · have hb : (y != c) = true := by simpa using he
          go_wp2_with fail
          go_quiet (fail)
          go_wp2_with fail
          go_quiet (fail)
          go_wp2_with fail
          all_goals
            rw [HQ.out]
            rw [World.drewN_drewN, World.drewN_drewN]
            refine ⟨?_, _, rfl⟩
            rw [← H2.out, pltF, if_neg hn, if_neg (by rw [HY.out, HCC.out]; exact he), HY.out, HCC.out]
            rfl
/-- The cheat sheet's row k, in blocks below B. -/
structure LeftRow (B : Nat) (w : World) (k D : Nat) (s : ByteArray) : Prop where
  big : 8 < B
  tab : ∃ g o, g < B ∧ w.cell? ⟨8, 0, none⟩ = some (.slice (some ⟨g, o, none⟩) 61 61) ∧ w.cell? ⟨g, o + k * 2, none⟩ = some (.int .i64 D) ∧ w.cell? ⟨g, o + k * 2 + 1, none⟩ = some (.string s)
theorem LeftRow.keep {B : Nat} {w w' : World} {k D : Nat} {s : ByteArray} (h : LeftRow B w k D s) (hb : Below B w w') : LeftRow B w' k D s := by
  obtain ⟨h0, g, o, h1, h2, h3, h4⟩ := h
  exact ⟨h0, g, o, h1, (hb.cell (p := ⟨8, 0, none⟩) h0).trans h2, (hb.cell (p := ⟨g, o + k * 2, none⟩) h1).trans h3, (hb.cell (p := ⟨g, o + k * 2 + 1, none⟩) h1).trans h4⟩
set_option maxHeartbeats 2000000 in
theorem ls_run (k D : Nat) (s : ByteArray) (hC : Cheat k (p2 k) D s.size (byt s)) (hs : s.size ≤ 100) (hk1 : 1 ≤ k) (hk60 : k ≤ 60) (hD20 : D ≤ 20) (x : Dec) (hx : DecI x) (hp0 : -1000000 ≤ x.dp) (hp1 : x.dp ≤ 1000000) (B b : Nat) (hB : B ≤ b) (w : World) (h : DecAt w b x) (hrow : LeftRow B w k D s) :
    Calls Tryz.prog 232 #[.pointer (some ⟨b, 0, none⟩), .int .u64 k] w (Turned B b w (lsX (p2 k) (newD x.d (byt s) x.nd D s.size) x)) := by
  obtain ⟨hK1, hK2⟩ := p2_small hk1 hk60
  have hKe := (p2_eq k).symm
  have hK60 : p2 k ≤ 1152921504606846976 := by rw [← p2_60]; exact p2_le hk60
  obtain ⟨m0, m1, m2⟩ := lsX_mid hC hx
  have hD0 := hC.D0
  obtain ⟨nD1, nD2⟩ := newD_le x.d (byt s) x.nd D s.size
  obtain ⟨g, o, hgB, hg1, hg2, hg3⟩ := hrow.tab
  have hB8 := hrow.big
  obtain ⟨PL, hPL⟩ : ∃ p, p = pltF x.d (byt s) x.nd s.size 0 := ⟨_, rfl⟩
  have hNew : newD x.d (byt s) x.nd D s.size = if PL = true then D - 1 else D := by rw [hPL]; rfl
  have HP : Hid (∀ (n : Nat), Calls Tryz.prog 254 #[.slice (some ⟨b, 0, none⟩) x.nd 800, .string s] (w.drewN n) fun e w' => e = .returned (.bool PL) ∧ ∃ m, w' = (w.drewN n).drewN m) := Lib.hid (fun n => by
    have hq := plt_run x.d x.nd hx.nd1 s hs b (w.drewN n) (fun i hi => h.dg i (Nat.lt_of_lt_of_le hi hx.nd1))
    rw [← hPL] at hq
    exact hq)
  obtain ⟨dl, hdl⟩ : ∃ dl, dl = newD x.d (byt s) x.nd D s.size := ⟨_, rfl⟩
  rw [← hdl] at m0 m1 m2 hNew nD1 nD2 ⊢
  have HN := Lib.hid hNew
  obtain ⟨K, hK⟩ : ∃ K, K = p2 k := ⟨_, rfl⟩
  rw [← hK] at hK1 hK2 hKe hK60 m0 m1 m2 ⊢
  have HK := Lib.hid hK
  clear hC hrow hdl hPL hNew hK m2
  obtain ⟨Q, hQ⟩ : ∃ Q, Q = Turned B b w (lsX K dl x) := ⟨_, rfl⟩
  rw [← hQ]
  have HQ := Lib.hid hQ
  have HX := Lib.hid hx
  have hnd0 := hx.nd0
  have hnd1 := hx.nd1
  have H := Lib.hid h
  have hnd := h.nd
  clear hQ hx h
  have hk61 : (k : Int) < 61 := by omega
  have hk0 : (0 : Int) ≤ k := by omega
  have hn0 : (0 : Int) ≤ x.nd := by omega
  have hn8 : (x.nd : Int) ≤ 800 := by omega
  go_enter Tryz.func232, Tryz.ntmps232
  go_wp2_with fail
  go_quiet ((go_at_call 254; exact Calls.quiet_of (HP.out _)))
  clear hg1 hg2 hg3 HP
  go_upto_if 30 with fail
  have HD0 := Lib.hid (H.out.drewN nq)
  have HB0 := Lib.hid (below_dn (Below.refl B w) nq)
  generalize hW : w.drewN nq = W at HD0 HB0 ⊢
  clear hW hnd
  go_cut [4] from 31 to 32 (fun dv wr => W = wr ∧ dv = .int .i64 dl)
  case first =>
    cases PL
    · have hn := HN.out
      rw [if_neg (by decide)] at hn
      go_wp2_with fail
      go_meet
      exact ⟨rfl, by rw [hn]⟩
    · have hn := HN.out
      rw [if_pos rfl] at hn
      have hn' : (D : Int) - 1 = (dl : Int) := by omega
      clear hn
      go_wp2_with fail
      go_meet
      exact ⟨rfl, rfl⟩
  case rest =>
    obtain ⟨rfl, rfl⟩ := hcut
    have hdl0 : (0 : Int) ≤ dl := by omega
    have hdl1 : (dl : Int) ≤ 20 := by omega
    clear HN hD0 nD1 nD2
    have hnd := HD0.out.nd
    have hdp := HD0.out.dp
    generalize hyy : lsE K dl x.d x.nd 0 x.d x.tr = Y at m0 m1
    have HE := Lib.hid hyy
    obtain ⟨YN, YD, YT⟩ := Y
    have M0 := Lib.hid m0
    have M1 := Lib.hid m1
    clear hyy m0 m1
    have HdG := Lib.hid HX.out.dig
    go_wp2_with fail
    go_loopg [5, 6, 7] x.nd (fun r sr sw sn wr => ∃ (n : Int) (d : Nat → Int) (t : Bool), sr = .int .i64 ((r : Int) - 1) ∧ sw = .int .i64 ((r : Int) + dl) ∧ sn = .int .u64 n ∧ r ≤ x.nd ∧ 0 ≤ n ∧ n < K ∧ (∀ i, i < r → d i = x.d i) ∧ lsE K dl x.d r n d t = (YN, YD, YT) ∧ DecAt wr b ⟨d, x.nd, x.dp, x.ng, t⟩ ∧ Below B w wr)
    case atStart => exact ⟨0, x.d, x.tr, rfl, rfl, rfl, Nat.le_refl _, by omega, by omega, fun _ _ => rfl, HE.out, HD0.out, HB0.out⟩
    case round =>
      clear hnd hdp
      obtain ⟨n, d, t, rfl, rfl, rfl, h1, h2, h3, h4, h5, h6, h7⟩ := hrel
      have H4 := Lib.hid h4
      have H5 := Lib.hid h5
      have H6 := Lib.hid h6
      have H7 := Lib.hid h7
      clear h4 h5 h6 h7
      cases gk with
      | zero =>
        have H8 : Hid ((n, d, t) = (YN, YD, YT)) := Lib.hid H5.out
        have h8 := H8.out
        injection h8 with e1 e2
        injection e2 with e2 e3
        subst e1 e2 e3
        clear H8 H4 H5 HD0 HB0
        have HV : Hid (lsF dl n d t = lsF dl n d t) := Lib.hid rfl
        have hge : decide ((0 : Int) ≤ ((0 : Nat) : Int) - 1) = false := by decide
        go_wp2_with fail
        generalize hvv : lsF dl n d t = V at HV
        have HVV := Lib.hid hvv
        obtain ⟨VD, VT⟩ := V
        clear hvv HV
        go_loopg [6, 7] dl (fun r sw sn wr => ∃ (n : Int) (d : Nat → Int) (t : Bool), sw = .int .i64 r ∧ sn = .int .u64 n ∧ r ≤ dl ∧ 0 ≤ n ∧ n < K ∧ n < p10 r ∧ lsF r n d t = (VD, VT) ∧ DecAt wr b ⟨d, x.nd, x.dp, x.ng, t⟩ ∧ Below B w wr)
        case atStart => exact ⟨n, d, t, by simp, rfl, Nat.le_refl _, h2, h3, M1.out, HVV.out, H6.out, H7.out⟩
        case round =>
          clear h1 h2 h3 H6 H7 M1 M0 hge
          obtain ⟨n, d, t, rfl, rfl, h1, h2, h3, h4, h5, h6, h7⟩ := hrel
          have H4 := Lib.hid h4
          have H5 := Lib.hid h5
          have H6 := Lib.hid h6
          have H7 := Lib.hid h7
          clear h4 h5 h6 h7
          by_cases hn : 0 < n
          · have hf : 0 < gk := by
              rcases Nat.eq_zero_or_pos gk with e | e
              · have h4 := H4.out
                rw [e] at h4
                have h7 : n < 1 := h4
                omega
              · exact e
            obtain ⟨r, rfl⟩ : ∃ f, gk = f + 1 := ⟨gk - 1, by omega⟩
            have HP1 : Hid (n / 10 < p10 r) := Lib.hid (by
              have h4 : n < p10 r * 10 := H4.out
              omega)
            have hr0 : (0 : Int) ≤ r := by omega
            have he1 : n - 10 * (n / 10) + 48 = n % 10 + 48 := by omega
            have HE1 := Lib.hid he1
            clear he1
            by_cases hw : r < 800
            · have hw1 : (r : Int) < 800 := by omega
              have hcw := H6.out.dg r hw
              have hfw := H6.out.fr r
              dsimp only at hcw
              go_wp2_with fail
              go_roundg r
              case measure => omega
              case rel =>
                refine ⟨n / 10, dupd d r (n - 10 * (n / 10) + 48), t, congrArg (Value.int IntKind.i64) (by omega), rfl, by omega, by omega, by omega, HP1.out, ?_, H6.out.setd r hw _, below_set H7.out hB _⟩
                have h5 := H5.out
                rw [lsF, if_pos hn, if_pos hw, if_pos hw, ← HE1.out] at h5
                exact h5
            · omega
          · have hn0 : n = 0 := by omega
            have hnb : decide (0 < n) = false := by simpa using hn
            have H8 : Hid ((d, t) = (VD, VT)) := Lib.hid (by
              have h7 := H5.out
              cases gk with
              | zero => exact h7
              | succ f => rw [lsF, if_neg hn] at h7; exact h7)
            have h8 := H8.out
            injection h8 with e1 e2
            subst e1 e2
            clear H8 H5 H4 hn0
            have hnd := H6.out.nd
            have hdp := H6.out.dp
            have hf0 := H6.out.fr 800
            have hf1 := H6.out.fr 801
            dsimp only at hnd hdp
            by_cases h8 : 800 ≤ x.nd + dl
            · have h8' : (800 : Int) ≤ (x.nd : Int) + dl := by omega
              have HT := Lib.hid (trim_run ⟨d, 800, x.dp + dl, x.ng, t⟩ (Nat.le_refl _) B b hB _ (((H6.out.setnd (x.nd + dl)).setnd 800).setdp (x.dp + dl)))
              go_wp2_with (go_at_call 231; refine HT.out.mono ?_; rintro r w9 ⟨rfl, h9, h10⟩)
              go_end0
              rw [HQ.out]
              refine ⟨rfl, ?_, (below_set (below_set (below_set H7.out hB _) hB _) hB _).trans h10⟩
              have e : lsX K dl x = trimX ⟨d, 800, x.dp + dl, x.ng, t⟩ := by
                unfold lsX
                rw [HE.out, HVV.out, if_pos h8]
              rw [e]
              exact h9
            · have h8' : ¬ (800 : Int) ≤ (x.nd : Int) + dl := by omega
              have HT := Lib.hid (trim_run ⟨d, x.nd + dl, x.dp + dl, x.ng, t⟩ (by show x.nd + dl ≤ 800; omega) B b hB _ ((H6.out.setnd (x.nd + dl)).setdp (x.dp + dl)))
              go_wp2_with (go_at_call 231; refine HT.out.mono ?_; rintro r w9 ⟨rfl, h9, h10⟩)
              go_end0
              rw [HQ.out]
              refine ⟨rfl, ?_, (below_set (below_set H7.out hB _) hB _).trans h10⟩
              have e : lsX K dl x = trimX ⟨d, x.nd + dl, x.dp + dl, x.ng, t⟩ := by
                unfold lsX
                rw [HE.out, HVV.out, if_neg h8]
              rw [e]
              exact h9
      | succ r =>
        have hc := H6.out.dg r (by omega)
        dsimp only at hc
        rw [H4.out r (by omega)] at hc
        have hD := HdG.out r (by omega)
        have hD1 := hD.1
        have hD2 := hD.2
        clear hD
        obtain ⟨m, hm⟩ : ∃ m, (x.d r - 48) * K = m := ⟨_, rfl⟩
        have hm0 : 0 ≤ m := by rw [← hm]; exact Int.mul_nonneg (by omega) (by omega)
        have hm9 : m ≤ 9 * K := by rw [← hm]; exact Int.mul_le_mul_of_nonneg_right (by omega) (by omega)
        have hr0 : (0 : Int) ≤ r := by omega
        have hr1 : (r : Int) < 800 := by omega
        have hge : decide ((0 : Int) ≤ ((r + 1 : Nat) : Int) - 1) = true := by simp
        have he1 : n + m - 10 * ((n + m) / 10) + 48 = ((x.d r - 48) * K + n) % 10 + 48 := by rw [hm]; omega
        have he2 : (n + m) / 10 = ((x.d r - 48) * K + n) / 10 := by rw [hm, Int.add_comm]
        have HE1 := Lib.hid he1
        have HE2 := Lib.hid he2
        have HM := Lib.hid hm
        clear he1 he2
        by_cases hw : r + dl < 800
        · have hw1 : (r : Int) + 1 + dl - 1 < 800 := by omega
          have hcw := H6.out.dg (r + dl) hw
          have hfw := H6.out.fr (r + dl)
          dsimp only at hcw
          go_wp2_with fail
          go_roundg r
          case measure => omega
          case rel =>
            refine ⟨(n + m) / 10, dupd d (r + dl) (n + m - 10 * ((n + m) / 10) + 48), t, rfl, congrArg (Value.int IntKind.i64) (by omega), rfl, by omega, by omega, by omega, fun i hi => ?_, ?_, ?_, below_set H7.out hB _⟩
            · rw [upd_ne _ _ _ (by omega)]
              exact H4.out i (by omega)
            · have h5 := H5.out
              rw [lsE, if_pos hw, if_pos hw, ← HE1.out, ← HE2.out] at h5
              exact h5
            · exact H6.out.setd (r + dl) hw (n + m - 10 * ((n + m) / 10) + 48)
        · have hw1 : (800 : Int) ≤ (r : Int) + 1 + dl - 1 := by omega
          have htr := H6.out.tr
          have hf3 := H6.out.fr 803
          dsimp only at htr
          by_cases hq : n + m - 10 * ((n + m) / 10) = 0
          · have hqb : (n + m - 10 * ((n + m) / 10) != 0) = false := by simpa using hq
            go_wp2_with fail
            go_roundg r
            case measure => omega
            case rel =>
              refine ⟨(n + m) / 10, d, t, rfl, congrArg (Value.int IntKind.i64) (by omega), rfl, by omega, by omega, by omega, fun i hi => H4.out i (by omega), ?_, H6.out, H7.out⟩
              have h5 := H5.out
              have hz : (((x.d r - 48) * K + n) % 10 != 0) = false := by
                have := HE1.out
                simp
                omega
              rw [lsE, if_neg hw, if_neg hw, hz, Bool.or_false, ← HE2.out] at h5
              exact h5
          · have hqb : (n + m - 10 * ((n + m) / 10) != 0) = true := by simpa using hq
            go_wp2_with fail
            go_roundg r
            case measure => omega
            case rel =>
              refine ⟨(n + m) / 10, d, true, rfl, congrArg (Value.int IntKind.i64) (by omega), rfl, by omega, by omega, by omega, fun i hi => H4.out i (by omega), ?_, H6.out.settr true, below_set H7.out hB _⟩
              have h5 := H5.out
              have hz : (((x.d r - 48) * K + n) % 10 != 0) = true := by
                have := HE1.out
                simp
                omega
              rw [lsE, if_neg hw, if_neg hw, hz, Bool.or_true, ← HE2.out] at h5
              exact h5
end Go.Proofs.YtnggkkdcddpjlaaGreatDoor
