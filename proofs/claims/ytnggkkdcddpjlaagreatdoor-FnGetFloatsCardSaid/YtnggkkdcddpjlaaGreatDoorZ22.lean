/- strconv's decimal: set. -/
import Derived.Test.YtnggkkdcddpjlaaGreatDoorZ07
import Derived.Test.YtnggkkdcddpjlaaGreatDoorZ21
import Derived.StillTailTactics
namespace Go.Proofs.YtnggkkdcddpjlaaGreatDoor
open Go.RowKit
set_option maxRecDepth 100000
set_option linter.unusedVariables false
set_option linter.unusedSimpArgs false
structure SD where
  i : Nat
  dot : Bool
  dig : Bool
  x : Dec
/-- A round of set's first loop. -/
def sdStep (s : ByteArray) (y : SD) : Option SD :=
  if y.i < s.size then
    if byt s y.i = 95 then some ⟨y.i + 1, y.dot, y.dig, y.x⟩
    else if byt s y.i = 46 then (if y.dot = true then none else some ⟨y.i + 1, true, y.dig, ⟨y.x.d, y.x.nd, y.x.nd, y.x.ng, y.x.tr⟩⟩)
    else if 48 ≤ byt s y.i ∧ byt s y.i ≤ 57 then
      (if byt s y.i = 48 ∧ y.x.nd = 0 then some ⟨y.i + 1, y.dot, true, ⟨y.x.d, y.x.nd, y.x.dp - 1, y.x.ng, y.x.tr⟩⟩
      else if y.x.nd < 800 then some ⟨y.i + 1, y.dot, true, ⟨dupd y.x.d y.x.nd (byt s y.i), y.x.nd + 1, y.x.dp, y.x.ng, y.x.tr⟩⟩
      else if byt s y.i = 48 then some ⟨y.i + 1, y.dot, true, y.x⟩
      else some ⟨y.i + 1, y.dot, true, ⟨y.x.d, y.x.nd, y.x.dp, y.x.ng, true⟩⟩)
    else none
  else none
structure SDI (s : ByteArray) (y : SD) : Prop where
  i : y.i ≤ s.size
  nd : y.x.nd ≤ 800
  ndi : y.x.nd ≤ y.i
  dig : ∀ j, j < y.x.nd → Dig (y.x.d j)
  hd : 0 < y.x.nd → 49 ≤ y.x.d 0
  dp0 : -(y.i : Int) ≤ y.x.dp
  dp1 : y.x.dp ≤ y.i
theorem sd_keep (s : ByteArray) (x y : SD) (h : SDI s x) (hs : sdStep s x = some y) : SDI s y ∧ s.size - y.i < s.size - x.i := by
  obtain ⟨a1, a2, a3, a4, a5, a6, a7⟩ := h
  unfold sdStep at hs
  split at hs
  · rename_i hi
    split at hs
    · simp only [Option.some.injEq] at hs; subst hs
      exact ⟨⟨by dsimp only; omega, a2, by dsimp only; omega, a4, a5, by dsimp only; omega, by dsimp only; omega⟩, by dsimp only; omega⟩
    · split at hs
      · split at hs
        · cases hs
        · simp only [Option.some.injEq] at hs; subst hs
          exact ⟨⟨by dsimp only; omega, a2, by dsimp only; omega, a4, a5, by dsimp only; omega, by dsimp only; omega⟩, by dsimp only; omega⟩
      · split at hs
        · rename_i hd
          split at hs
          · simp only [Option.some.injEq] at hs; subst hs
            exact ⟨⟨by dsimp only; omega, a2, by dsimp only; omega, a4, a5, by dsimp only; omega, by dsimp only; omega⟩, by dsimp only; omega⟩
          · rename_i hn
            split at hs
            · rename_i h8
              simp only [Option.some.injEq] at hs; subst hs
              refine ⟨⟨by dsimp only; omega, by dsimp only; omega, by dsimp only; omega, fun j hj => ?_, fun _ => ?_, by dsimp only; omega, by dsimp only; omega⟩, by dsimp only; omega⟩
              · dsimp only at hj ⊢
                by_cases e : j = x.x.nd
                · rw [e, upd_at]
                  exact hd
                · rw [upd_ne _ _ _ e]
                  exact a4 j (by omega)
              · dsimp only
                by_cases e : 0 = x.x.nd
                · rw [← e, upd_at]
                  omega
                · rw [upd_ne _ _ _ e]
                  exact a5 (by omega)
            · split at hs
              · simp only [Option.some.injEq] at hs; subst hs
                exact ⟨⟨by dsimp only; omega, a2, by dsimp only; omega, a4, a5, by dsimp only; omega, by dsimp only; omega⟩, by dsimp only; omega⟩
              · simp only [Option.some.injEq] at hs; subst hs
                exact ⟨⟨by dsimp only; omega, a2, by dsimp only; omega, a4, a5, by dsimp only; omega, by dsimp only; omega⟩, by dsimp only; omega⟩
        · cases hs
  · cases hs
def sdStart (s : ByteArray) : SD := ⟨rfI1 s, false, false, ⟨fun _ => 0, 0, 0, rfSign s, false⟩⟩
/-- What set answers behind its first loop: whether the text is a number, and the decimal. -/
def sdBad (s : ByteArray) (z : SD) : Bool := decide (z.i < s.size ∧ byt s z.i = 46 ∧ z.dot = true) || !z.dig
def sdX (s : ByteArray) (z : SD) : RX := rfExp false s z.i (if z.dot = true then z.x.dp else z.x.nd) false
def sdOk (s : ByteArray) (z : SD) : Bool := !sdBad s z && (sdX s z).ok && decide ((sdX s z).n = s.size)
def sdDec (s : ByteArray) (z : SD) : Dec := ⟨z.x.d, z.x.nd, (sdX s z).dp, z.x.ng, z.x.tr⟩
def SetPost (B b : Nat) (w : World) (ok : Bool) (y : Dec) (e : Ending) (w' : World) : Prop := e = .returned (.bool ok) ∧ Below B w w' ∧ (ok = true → DecAt w' b y)
set_option maxHeartbeats 4000000 in
theorem set_run (s : ByteArray) (hs : (s.size : Int) ≤ 1000000) (h0 : 0 < s.size) (Z : SD) (hI : SDI s Z) (hE : Ends (sdStep s) (sdStart s) Z) (B b : Nat) (w : World) (hB : B ≤ b) (h : DecAt w b ⟨fun _ => 0, 0, 0, false, false⟩) :
    Calls Tryz.prog 246 #[.pointer (some ⟨b, 0, none⟩), .string s] w (SetPost B b w (sdOk s Z) (sdDec s Z)) := by
  obtain ⟨OK, hOK⟩ : ∃ o, o = sdOk s Z := ⟨_, rfl⟩
  obtain ⟨DX, hDX⟩ : ∃ d, d = sdDec s Z := ⟨_, rfl⟩
  rw [← hOK, ← hDX]
  obtain ⟨Q, hQ⟩ : ∃ Q, Q = SetPost B b w OK DX := ⟨_, rfl⟩
  rw [← hQ]
  have HQ := Lib.hid hQ
  have HOK := Lib.hid hOK
  have HDX := Lib.hid hDX
  have HE := Lib.hid hE
  have HI := Lib.hid hI
  have hng := h.ng
  have htr := h.tr
  have hf2 := h.fr 802
  have hf3 := h.fr 803
  have H := Lib.hid h
  dsimp only at hng htr
  clear hQ hOK hDX hE hI h
  have hb := fun k (h : k < s.size) => byt_at h
  have hne : ¬ (s = ByteArray.empty) := fun h => by rw [h] at h0; exact absurd h0 (by decide)
  have hlow := fun c w => Tryz.internal_strconv_lower c w
  have HLow := Lib.hid hlow
  have HBy := Lib.hid hb
  clear hlow hb
  have hsz : (0 : Int) < s.size := by omega
  have hszb : decide ((s.size : Int) ≤ 0) = false := by simp; omega
  have hbi := byt_in s 0
  have hb0 := HBy.out 0 h0
  have HI1 : Hid (rfI1 s = if byt s 0 = 43 then 1 else if byt s 0 = 45 then 1 else 0) := Lib.hid rfl
  have HSg : Hid (rfSign s = (byt s 0 == 45)) := Lib.hid rfl
  generalize byt s 0 = c0 at hb0 HI1 HSg hbi
  go_enter Tryz.func246, Tryz.ntmps246
  go_upto_block 0 with fail
  have HW0 := Lib.hid ((H.out.setng false).settr false)
  have HB0 := Lib.hid (below_set (below_set (Below.refl B w) (o := 802) hB (.bool false)) (o := 803) hB (.bool false))
  generalize (w.setCell _ _).setCell _ _ = w1 at HW0 HB0 ⊢
  clear hng htr hf2 hf3 hszb
  go_cut [5] from 23 to 33 (fun si wr => si = .int .i64 (rfI1 s) ∧ DecAt wr b ⟨fun _ => 0, 0, 0, rfSign s, false⟩ ∧ Below B w wr)
  case first =>
    have hng := HW0.out.ng
    have hf2 := HW0.out.fr 802
    by_cases h43 : c0 = 43
    · have hi : rfI1 s = 1 := by rw [HI1.out, if_pos h43]
      have hsg : rfSign s = false := by rw [HSg.out, h43]; decide
      have HHi := Lib.hid hi
      have HHs := Lib.hid hsg
      clear hi hsg
      subst h43
      go_wp2_with fail
      go_meet
      exact ⟨by rw [HHi.out]; rfl, by rw [HHs.out]; exact HW0.out, HB0.out⟩
    · have h43b : (c0 == 43) = false := by simpa using h43
      by_cases h45 : c0 = 45
      · have hi : rfI1 s = 1 := by rw [HI1.out, if_neg h43, if_pos h45]
        have hsg : rfSign s = true := by rw [HSg.out, h45]; decide
        have HHi := Lib.hid hi
        have HHs := Lib.hid hsg
        clear hi hsg
        subst h45
        go_wp2_with fail
        go_meet
        exact ⟨by rw [HHi.out]; rfl, by rw [HHs.out]; exact HW0.out.setng true, below_set HB0.out hB _⟩
      · have h45b : (c0 == 45) = false := by simpa using h45
        have hi : rfI1 s = 0 := by rw [HI1.out, if_neg h43, if_neg h45]
        have hsg : rfSign s = false := by rw [HSg.out]; exact h45b
        have HHi := Lib.hid hi
        have HHs := Lib.hid hsg
        clear hi hsg
        go_wp2_with fail
        go_meet
        exact ⟨by rw [HHi.out]; rfl, by rw [HHs.out]; exact HW0.out, HB0.out⟩
  case rest =>
    obtain ⟨rfl, h1, h2⟩ := hcut
    have H1 := Lib.hid h1
    have H2 := Lib.hid h2
    have hi1 : rfI1 s ≤ 1 := by unfold rfI1; split <;> (try split) <;> omega
    clear h1 h2 hb0 HSg HI1 hbi HW0 HB0 H
    go_upto_block 1 with fail
    go_cut [5, 6, 7] from 34 to 116 (fun si sdot sdig wr => sdBad s Z = !Z.dig ∧ si = .int .i64 Z.i ∧ sdot = .bool Z.dot ∧ sdig = .bool Z.dig ∧ DecAt wr b Z.x ∧ Below B w wr)
    case first =>
      go_wp2_with fail
      go_loopg [5, 6, 7] (s.size - rfI1 s) (fun g si sdot sdig wr => ∃ y : SD, g = s.size - y.i ∧ SDI s y ∧ Ends (sdStep s) y Z ∧ si = .int .i64 y.i ∧ sdot = .bool y.dot ∧ sdig = .bool y.dig ∧ DecAt wr b y.x ∧ Below B w wr)
      case atStart => exact ⟨sdStart s, rfl, ⟨by show rfI1 s ≤ s.size; omega, by show 0 ≤ 800; omega, Nat.zero_le _, fun j hj => absurd hj (by show ¬ j < 0; omega), fun hh => absurd hh (by show ¬ 0 < 0; omega), by show -(rfI1 s : Int) ≤ 0; omega, by show (0 : Int) ≤ rfI1 s; omega⟩, HE.out, rfl, rfl, rfl, H1.out, H2.out⟩
      case round =>
        clear H1 H2 hi1
        obtain ⟨⟨k, dot, dig, ⟨d, nd, dp, ng, tr⟩⟩, rfl, h1, h2, rfl, rfl, rfl, h3, h4⟩ := hrel
        have H1 := Lib.hid h1
        have H2 := Lib.hid h2
        have H3 := Lib.hid h3
        have H4 := Lib.hid h4
        have i1 := h1.i
        have i2 := h1.nd
        have i3 := h1.ndi
        have i4 := h1.dp0
        have i5 := h1.dp1
        have hnd := h3.nd
        have hdp := h3.dp
        have hf0 := h3.fr 800
        have hf1 := h3.fr 801
        dsimp only at i1 i2 i3 i4 i5 hnd hdp
        clear h1 h2 h3 h4
        by_cases hk : k < s.size
        · have hbk := HBy.out k hk
          have hc := byt_in s k
          have hk2 : (k : Int) < s.size := by omega
          obtain ⟨c, hcc⟩ : ∃ c, byt s k = c := ⟨_, rfl⟩
          rw [hcc] at hbk hc
          have HC := Lib.hid hcc
          have HSt : ∀ y', sdStep s ⟨k, dot, dig, ⟨d, nd, dp, ng, tr⟩⟩ = some y' → Hid (SDI s y' ∧ s.size - y'.i < s.size - k ∧ Ends (sdStep s) y' Z) := fun y' hy => Lib.hid (by
            obtain ⟨q1, q2⟩ := sd_keep s _ y' H1.out hy
            exact ⟨q1, q2, H2.out.next hy⟩)
          have HStep : Hid (sdStep s ⟨k, dot, dig, ⟨d, nd, dp, ng, tr⟩⟩ = if c = 95 then some ⟨k + 1, dot, dig, ⟨d, nd, dp, ng, tr⟩⟩
            else if c = 46 then (if dot = true then none else some ⟨k + 1, true, dig, ⟨d, nd, nd, ng, tr⟩⟩)
            else if 48 ≤ c ∧ c ≤ 57 then
              (if c = 48 ∧ nd = 0 then some ⟨k + 1, dot, true, ⟨d, nd, dp - 1, ng, tr⟩⟩
              else if nd < 800 then some ⟨k + 1, dot, true, ⟨dupd d nd c, nd + 1, dp, ng, tr⟩⟩
              else if c = 48 then some ⟨k + 1, dot, true, ⟨d, nd, dp, ng, tr⟩⟩
              else some ⟨k + 1, dot, true, ⟨d, nd, dp, ng, true⟩⟩)
            else none) := Lib.hid (by
              unfold sdStep
              dsimp only
              rw [if_pos hk, hcc])
          have HSS := Lib.hid HSt
          clear hcc HSt
          by_cases h95 : c = 95
          · subst h95
            have HN := HSS.out _ (by rw [HStep.out, if_pos rfl])
            go_wp2_with fail
            go_roundg (s.size - (k + 1))
            case measure => omega
            case rel => exact ⟨_, rfl, HN.out.1, HN.out.2.2, by simp, rfl, rfl, H3.out, H4.out⟩
          · have b95 : (c == 95) = false := by simpa using h95
            by_cases h46 : c = 46
            · subst h46
              cases dot
              · have HN := HSS.out _ (by rw [HStep.out, if_neg (by decide), if_pos rfl, if_neg (by decide)])
                go_wp2_with fail
                go_roundg (s.size - (k + 1))
                case measure => omega
                case rel => exact ⟨_, rfl, HN.out.1, HN.out.2.2, by simp, rfl, rfl, H3.out.setdp nd, below_set H4.out hB _⟩
              · have hz := H2.out.done (by rw [HStep.out, if_neg (by decide), if_pos rfl, if_pos rfl])
                subst hz
                go_wp2_with fail
                rw [HQ.out]
                have hok : OK = false := by
                  rw [HOK.out]
                  unfold sdOk sdBad
                  dsimp only
                  rw [HC.out]
                  simp [hk]
                exact ⟨congrArg (fun z => Ending.returned (Value.bool z)) hok.symm, H4.out, fun e => by rw [hok] at e; cases e⟩
            · have b46 : (c == 46) = false := by simpa using h46
              by_cases hd : 48 ≤ c ∧ c ≤ 57
              · obtain ⟨hd1, hd2⟩ := hd
                have bd1 : decide (48 ≤ c) = true := by simpa using hd1
                have bd2 : decide (c ≤ 57) = true := by simpa using hd2
                have HD : Hid (48 ≤ c ∧ c ≤ 57) := Lib.hid ⟨hd1, hd2⟩
                by_cases h48 : c = 48
                · subst h48
                  by_cases hn : nd = 0
                  · subst hn
                    have HN := HSS.out _ (by rw [HStep.out, if_neg (by decide), if_neg (by decide), if_pos HD.out, if_pos ⟨rfl, rfl⟩])
                    clear HStep HSS
                    go_wp2_with fail
                    go_roundg (s.size - (k + 1))
                    case measure => omega
                    case rel => exact ⟨_, rfl, HN.out.1, HN.out.2.2, by simp, rfl, rfl, H3.out.setdp (dp - 1), below_set H4.out hB _⟩
                  · have hnb : ((nd : Int) == 0) = false := by simp; omega
                    have hnb2 : (nd == 0) = false := by simpa using hn
                    by_cases h8 : nd < 800
                    · have HN := HSS.out _ (by rw [HStep.out, if_neg (by decide), if_neg (by decide), if_pos HD.out, if_neg (fun e => hn e.2), if_pos h8])
                      clear HStep HSS
                      have h8b : (nd : Int) < 800 := by omega
                      have hcn := H3.out.dg nd h8
                      have hfn := H3.out.fr nd
                      dsimp only at hcn
                      have hnd0 : (0 : Int) ≤ nd := by omega
                      go_wp2_with fail
                      go_still_tail 11, (by kernel_rfl)
                      go_wp2_with fail
                      go_roundg (s.size - (k + 1))
                      case measure => omega
                      case rel => exact ⟨_, rfl, HN.out.1, HN.out.2.2, by simp, rfl, rfl, ((H3.out.drewN 1).setd nd h8 48).setnd (nd + 1), below_set (below_set (below_dn H4.out 1) hB _) hB _⟩
                    · have HN := HSS.out _ (by rw [HStep.out, if_neg (by decide), if_neg (by decide), if_pos HD.out, if_neg (fun e => hn e.2), if_neg h8, if_pos rfl])
                      clear HStep HSS
                      have h8b : (800 : Int) ≤ nd := by omega
                      go_wp2_with fail
                      go_roundg (s.size - (k + 1))
                      case measure => omega
                      case rel => exact ⟨_, rfl, HN.out.1, HN.out.2.2, by simp, rfl, rfl, H3.out, H4.out⟩
                · have b48 : (c == 48) = false := by simpa using h48
                  have b48n : (c != 48) = true := by simpa using h48
                  by_cases h8 : nd < 800
                  · have HN := HSS.out _ (by rw [HStep.out, if_neg h95, if_neg h46, if_pos HD.out, if_neg (fun e => h48 e.1), if_pos h8])
                    clear HStep HSS
                    have h8b : (nd : Int) < 800 := by omega
                    have hcn := H3.out.dg nd h8
                    have hfn := H3.out.fr nd
                    dsimp only at hcn
                    have hnd0 : (0 : Int) ≤ nd := by omega
                    go_wp2_with fail
                    go_still_tail 11, (by kernel_rfl)
                    go_wp2_with fail
                    go_roundg (s.size - (k + 1))
                    case measure => omega
                    case rel => exact ⟨_, rfl, HN.out.1, HN.out.2.2, by simp, rfl, rfl, ((H3.out.drewN 1).setd nd h8 c).setnd (nd + 1), below_set (below_set (below_dn H4.out 1) hB _) hB _⟩
                  · have HN := HSS.out _ (by rw [HStep.out, if_neg h95, if_neg h46, if_pos HD.out, if_neg (fun e => h48 e.1), if_neg h8, if_neg h48])
                    clear HStep HSS
                    have h8b : (800 : Int) ≤ nd := by omega
                    have htr := H3.out.tr
                    have hf3 := H3.out.fr 803
                    dsimp only at htr
                    go_wp2_with fail
                    go_roundg (s.size - (k + 1))
                    case measure => omega
                    case rel => exact ⟨_, rfl, HN.out.1, HN.out.2.2, by simp, rfl, rfl, H3.out.settr true, below_set H4.out hB _⟩
              · have hz := H2.out.done (by rw [HStep.out, if_neg h95, if_neg h46, if_neg hd])
                subst hz
                by_cases bd1 : 48 ≤ c
                · have e1 : decide (48 ≤ c) = true := by simpa using bd1
                  have e2 : decide (c ≤ 57) = false := by simp; omega
                  have hlt : ¬ c ≤ 57 := by omega
                  clear hd
                  go_wp2_with fail
                  go_meet
                  refine ⟨?_, rfl, rfl, rfl, H3.out, H4.out⟩
                  unfold sdBad
                  dsimp only
                  rw [HC.out]
                  simp [h46]
                · have e1 : decide (48 ≤ c) = false := by simp; omega
                  clear hd
                  go_wp2_with fail
                  go_meet
                  refine ⟨?_, rfl, rfl, rfl, H3.out, H4.out⟩
                  unfold sdBad
                  dsimp only
                  rw [HC.out]
                  simp [h46]
        · have hz := H2.out.done (by unfold sdStep; dsimp only; rw [if_neg hk])
          subst hz
          have hk2 : (s.size : Int) ≤ k := by omega
          go_wp2_with fail
          go_meet
          refine ⟨?_, rfl, rfl, rfl, H3.out, H4.out⟩
          unfold sdBad
          dsimp only
          simp [hk]
    case rest =>
      obtain ⟨hbad, rfl, rfl, rfl, h3, h4⟩ := hcut
      clear H1 H2 HE
      have H3 := Lib.hid h3
      have H4 := Lib.hid h4
      have HBad := Lib.hid hbad
      clear h3 h4 hbad
      obtain ⟨zi, zdot, zdig, ⟨zd, znd, zdp, zng, ztr⟩⟩ := Z
      have hfi := HI.out.i
      have i2 := HI.out.nd
      have i3 := HI.out.ndi
      have i4 := HI.out.dp0
      have i5 := HI.out.dp1
      dsimp only at hfi i2 i3 i4 i5
      cases zdig
      · have hok : OK = false := by
          rw [HOK.out]
          unfold sdOk
          rw [HBad.out]
          rfl
        go_wp2_with fail
        rw [HQ.out]
        exact ⟨congrArg (fun z => Ending.returned (Value.bool z)) hok.symm, H4.out, fun e => by rw [hok] at e; cases e⟩
      · obtain ⟨X, hX⟩ : ∃ X, X = rfExp false s zi (if zdot = true then zdp else znd) false := ⟨_, rfl⟩
        have hok : OK = (X.ok && decide (X.n = s.size)) := by
          rw [HOK.out]
          unfold sdOk sdX
          rw [HBad.out, hX]
          rfl
        have hdx : DX = ⟨zd, znd, X.dp, zng, ztr⟩ := by
          rw [HDX.out, hX]
          rfl
        clear HOK HDX HBad
        have HOK := Lib.hid hok
        have HDX := Lib.hid hdx
        clear hok hdx
        obtain ⟨D, hD⟩ : ∃ D : Int, D = (if zdot = true then zdp else znd) := ⟨_, rfl⟩
        rw [← hD] at hX
        have hd0 : -(zi : Int) ≤ D := by rw [hD]; split <;> omega
        have hd1 : D ≤ zi := by rw [hD]; split <;> omega
        have HD := Lib.hid hD
        have HX := Lib.hid hX
        clear hD hX
        go_upto_if 120 with fail
        go_cut [4] from 121 to 127 (fun okv wr => okv = .bool false ∧ DecAt wr b ⟨zd, znd, D, zng, ztr⟩ ∧ Below B w wr)
        case first =>
          cases zdot
          · have hD : D = znd := HD.out
            have HDD := Lib.hid hD
            have hnd := H3.out.nd
            have hf1 := H3.out.fr 801
            have hdp := H3.out.dp
            dsimp only at hnd hdp
            clear hD
            go_wp2_with fail
            go_meet
            refine ⟨rfl, ?_, below_set H4.out hB _⟩
            rw [HDD.out]
            exact H3.out.setdp znd
          · have hD : D = zdp := HD.out
            have HDD := Lib.hid hD
            clear hD
            go_wp2_with fail
            go_meet
            refine ⟨rfl, ?_, H4.out⟩
            rw [HDD.out]
            exact H3.out
        case rest =>
          obtain ⟨rfl, h3, h4⟩ := hcut
          clear H3 H4
          have H3 := Lib.hid h3
          have H4 := Lib.hid h4
          clear h3 h4
          go_upto_region 32 with fail
          go_cut [138] from 128 to 137 (fun bv wr => wc = wr ∧ bv = .bool (decide (zi < s.size ∧ low (byt s zi) = 101)))
          case first =>
            by_cases h1 : zi < s.size
            · have e1 := HBy.out zi h1
              have e2 : (zi : Int) < s.size := by omega
              by_cases h2 : low (byt s zi) = 101
              · have h3 : (low (byt s zi) == 101) = true := by simpa using h2
                unfold low at h3
                go_wp2_with (go_at_call 214; refine (HLow.out _ _).mono ?_; rintro r w1 ⟨rfl, rfl⟩)
                go_meet
                exact ⟨rfl, by simp [h1, h2]⟩
              · have h3 : (low (byt s zi) == 101) = false := by simpa using h2
                unfold low at h3
                go_wp2_with (go_at_call 214; refine (HLow.out _ _).mono ?_; rintro r w1 ⟨rfl, rfl⟩)
                go_meet
                exact ⟨rfl, by simp [h2]⟩
            · have e2 : (s.size : Int) ≤ zi := by omega
              go_wp2_with fail
              go_meet
              exact ⟨rfl, by simp [h1]⟩
          case rest =>
            obtain ⟨rfl, rfl⟩ := hcut
            obtain ⟨B1, hB1⟩ : ∃ b, b = decide (zi < s.size ∧ low (byt s zi) = 101) := ⟨_, rfl⟩
            rw [← hB1]
            have HB1 := Lib.hid hB1
            clear hB1
            obtain ⟨xo, xn, xdp, xus⟩ := X
            dsimp only at HOK HDX
            go_upto_if 138 with fail
            go_cut [5, 8, 9] from 139 to 219 (fun si e8 e9 wr => xo = true ∧ si = .int .i64 xn ∧ xn ≤ s.size ∧ DecAt wr b ⟨zd, znd, xdp, zng, ztr⟩ ∧ Below B w wr)
            case first =>
              by_cases hb : zi < s.size ∧ low (byt s zi) = 101
              · obtain rfl : B1 = true := by rw [HB1.out]; simpa using hb
                obtain ⟨hb1, hb2⟩ := hb
                by_cases h2 : zi + 1 < s.size
                · have hX2 : Hid ((⟨xo, xn, xdp, xus⟩ : RX) = (if rxJ s zi < s.size ∧ 48 ≤ byt s (rxJ s zi) ∧ byt s (rxJ s zi) ≤ 57 then ⟨true, (runL (reStep s) s.size ⟨rxJ s zi, 0, false⟩).k, D + (if byt s (zi + 1) = 45 then -(runL (reStep s) s.size ⟨rxJ s zi, 0, false⟩).e else (runL (reStep s) s.size ⟨rxJ s zi, 0, false⟩).e), (runL (reStep s) s.size ⟨rxJ s zi, 0, false⟩).us⟩ else ⟨false, rxJ s zi, D, false⟩)) := Lib.hid (by
                    rw [HX.out, rfExp, if_pos (show zi < s.size ∧ low (byt s zi) = (if false = true then (112 : Int) else 101) from ⟨hb1, hb2⟩), if_pos h2])
                  have e1 := HBy.out (zi + 1) h2
                  have e2 : (zi : Int) + 1 < s.size := by omega
                  have e3 : ((zi : Int) + 1).toNat = zi + 1 := by omega
                  have HJ : Hid (rxJ s zi = if byt s (zi + 1) = 43 then zi + 2 else if byt s (zi + 1) = 45 then zi + 2 else zi + 1) := Lib.hid rfl
                  have hj1 : rxJ s zi ≤ s.size := by rw [HJ.out]; split <;> (try split) <;> omega
                  generalize rxJ s zi = j at hX2 HJ hj1
                  obtain ⟨c1, hc1⟩ : ∃ c, byt s (zi + 1) = c := ⟨_, rfl⟩
                  rw [hc1] at e1 HJ hX2
                  have hci := byt_in s (zi + 1)
                  rw [hc1] at hci
                  clear hc1
                  go_upto_block 4 with fail
                  go_cut [5, 8] from 148 to 155 (fun i es wr => wc = wr ∧ i = .int .i64 j ∧ es = .int .i64 (if c1 = 45 then -1 else 1))
                  case first =>
                    by_cases h43 : c1 = 43
                    · obtain rfl : j = zi + 2 := by rw [HJ.out, if_pos h43]
                      subst h43
                      go_wp2_with fail
                      go_meet
                      exact ⟨rfl, by simp; omega, rfl⟩
                    · have h43b : (c1 == 43) = false := by simpa using h43
                      by_cases h45 : c1 = 45
                      · obtain rfl : j = zi + 2 := by rw [HJ.out, if_neg h43, if_pos h45]
                        subst h45
                        go_wp2_with fail
                        go_meet
                        exact ⟨rfl, by simp; omega, rfl⟩
                      · have h45b : (c1 == 45) = false := by simpa using h45
                        obtain rfl : j = zi + 1 := by rw [HJ.out, if_neg h43, if_neg h45]
                        go_wp2_with fail
                        go_meet
                        refine ⟨rfl, by simp, ?_⟩
                        rw [if_neg h45]
                  case rest =>
                    obtain ⟨rfl, rfl, rfl⟩ := hcut
                    obtain ⟨ES, hES⟩ : ∃ e : Int, e = (if c1 = 45 then -1 else 1) := ⟨_, rfl⟩
                    rw [← hES]
                    have HES := Lib.hid hES
                    clear hES HJ
                    obtain ⟨B2, hB2⟩ : ∃ b, b = decide (j < s.size ∧ 48 ≤ byt s j ∧ byt s j ≤ 57) := ⟨_, rfl⟩
                    have HB2 := Lib.hid hB2
                    clear hB2
                    go_upto_region 42 with fail
                    go_cut [171] from 156 to 170 (fun b wr => wc = wr ∧ b = .bool (!B2))
                    case first =>
                      by_cases g1 : j < s.size
                      · have e4 := HBy.out j g1
                        have e5 : (j : Int) < s.size := by omega
                        have hcj := byt_in s j
                        obtain ⟨cj, hcj2⟩ : ∃ c, byt s j = c := ⟨_, rfl⟩
                        rw [hcj2] at e4 hcj
                        by_cases g2 : 48 ≤ cj
                        · by_cases g3 : cj ≤ 57
                          · obtain rfl : B2 = true := by rw [HB2.out, hcj2]; simp [g1, g2, g3]
                            clear hcj2
                            go_wp2_with fail
                            go_meet
                            first | exact ⟨rfl, rfl⟩ | exact ⟨rfl, by simp; omega⟩
                          · obtain rfl : B2 = false := by rw [HB2.out, hcj2]; simp; omega
                            clear hcj2
                            go_wp2_with fail
                            go_meet
                            first | exact ⟨rfl, rfl⟩ | exact ⟨rfl, by simp; omega⟩
                        · obtain rfl : B2 = false := by rw [HB2.out, hcj2]; simp; omega
                          clear hcj2
                          go_wp2_with fail
                          go_meet
                          first | exact ⟨rfl, rfl⟩ | exact ⟨rfl, by simp; omega⟩
                      · obtain rfl : B2 = false := by rw [HB2.out]; simp; omega
                        have g1b : (s.size : Int) ≤ j := by omega
                        go_wp2_with fail
                        go_meet
                        first | exact ⟨rfl, rfl⟩ | exact ⟨rfl, by simp; omega⟩
                    case rest =>
                      obtain ⟨rfl, rfl⟩ := hcut
                      have hX3 := hX2.out
                      cases B2
                      · have hb3 : ¬ (j < s.size ∧ 48 ≤ byt s j ∧ byt s j ≤ 57) := by have h := HB2.out; simpa using h
                        rw [if_neg hb3] at hX3
                        clear hb3
                        cases hX3
                        have hok : OK = false := HOK.out
                        go_wp2_with fail
                        rw [HQ.out]
                        exact ⟨congrArg (fun z => Ending.returned (Value.bool z)) hok.symm, H4.out, fun e => by rw [hok] at e; cases e⟩
                      · have hb3 : j < s.size ∧ 48 ≤ byt s j ∧ byt s j ≤ 57 := by have h := HB2.out; simpa using h
                        rw [if_pos hb3] at hX3
                        obtain ⟨hE2, hI2, hN2⟩ := runL_ends (step := reStep s) (REI s) (fun x => s.size - x.k) (re_keep s) s.size ⟨j, 0, false⟩ (Nat.sub_le _ _) ⟨hj1, by show (0 : Int) ≤ 0; omega, by show (0 : Int) ≤ 100000; omega⟩
                        generalize runL (reStep s) s.size ⟨j, 0, false⟩ = z at hE2 hI2 hN2 hX3
                        obtain ⟨zk, ze, zu⟩ := z
                        dsimp only at hX3
                        obtain ⟨PE, hPE⟩ : ∃ p : Int, p = (if c1 = 45 then -ze else ze) := ⟨_, rfl⟩
                        rw [← hPE] at hX3
                        have z1 := hI2.k
                        have z2 := hI2.e0
                        have z3 := hI2.e1
                        dsimp only at z1 z2 z3
                        have p1 : -100000 ≤ PE := by rw [hPE]; split <;> omega
                        have p2 : PE ≤ 100000 := by rw [hPE]; split <;> omega
                        have hmul : wrap64 (ze * ES) = PE := by
                          rw [HES.out, hPE]
                          unfold wrap64
                          split <;> omega
                        have HE2 := Lib.hid hE2
                        have HMul := Lib.hid hmul
                        clear hE2 hI2 hN2 hPE hmul hb3
                        cases hX3
                        go_upto_block 5 with fail
                        go_cut [5, 9] from 172 to 209 (fun i e wr => wc = wr ∧ i = .int .i64 xn ∧ e = .int .i64 ze)
                        case first =>
                          go_wp2_with fail
                          go_loop [5, 9] (fun i e => ∃ x : RE, REI s x ∧ Ends (reStep s) x ⟨xn, ze, xus⟩ ∧ i = .int .i64 x.k ∧ e = .int .i64 x.e) (fun i _ => s.size - (intOf i).toNat)
                          case atStart => exact ⟨⟨j, 0, false⟩, ⟨hj1, by show (0 : Int) ≤ 0; omega, by show (0 : Int) ≤ 100000; omega⟩, HE2.out, rfl, rfl⟩
                          case round =>
                            obtain ⟨⟨k, e, us⟩, hI, hE, rfl, rfl⟩ := hrel
                            obtain ⟨a1, a2, a3⟩ := hI
                            have HIx : Hid (REI s ⟨k, e, us⟩) := Lib.hid ⟨a1, a2, a3⟩
                            have HEx := Lib.hid hE
                            dsimp only at a1 a2 a3
                            clear hE
                            by_cases hk : k < s.size
                            · have hbk := HBy.out k hk
                              have hc := byt_in s k
                              have hk2 : (k : Int) < s.size := by omega
                              obtain ⟨c, hcc⟩ : ∃ c, byt s k = c := ⟨_, rfl⟩
                              rw [hcc] at hbk hc
                              have HC := Lib.hid hcc
                              clear hcc
                              by_cases h95 : c = 95
                              · subst h95
                                have hst : reStep s ⟨k, e, us⟩ = some ⟨k + 1, e, true⟩ := by rw [re_at hk 95 HC.out, if_pos rfl]
                                have HST := Lib.hid hst
                                clear hst
                                go_wp2_with fail
                                exact ⟨⟨⟨k + 1, e, true⟩, (re_keep s _ _ HIx.out HST.out).1, HEx.out.next HST.out, by simp, rfl⟩, by simp [intOf]; omega⟩
                              · have b95 : (c == 95) = false := by simpa using h95
                                by_cases g1 : 48 ≤ c
                                · by_cases g2 : c ≤ 57
                                  · have d1 : decide (48 ≤ c) = true := by simpa using g1
                                    have d2 : decide (c ≤ 57) = true := by simpa using g2
                                    by_cases g3 : e < 10000
                                    · have d3 : decide (e < 10000) = true := by simpa using g3
                                      have hst : reStep s ⟨k, e, us⟩ = some ⟨k + 1, e * 10 + c - 48, us⟩ := by rw [re_at hk c HC.out, if_neg h95, if_pos ⟨g1, g2⟩, if_pos g3]
                                      have HST := Lib.hid hst
                                      clear hst
                                      go_wp2_with fail
                                      exact ⟨⟨⟨k + 1, e * 10 + c - 48, us⟩, (re_keep s _ _ HIx.out HST.out).1, HEx.out.next HST.out, by simp, rfl⟩, by simp [intOf]; omega⟩
                                    · have d3 : decide (e < 10000) = false := by simpa using g3
                                      have hst : reStep s ⟨k, e, us⟩ = some ⟨k + 1, e, us⟩ := by rw [re_at hk c HC.out, if_neg h95, if_pos ⟨g1, g2⟩, if_neg g3]
                                      have HST := Lib.hid hst
                                      clear hst
                                      go_wp2_with fail
                                      exact ⟨⟨⟨k + 1, e, us⟩, (re_keep s _ _ HIx.out HST.out).1, HEx.out.next HST.out, by simp, rfl⟩, by simp [intOf]; omega⟩
                                  · have d1 : decide (48 ≤ c) = true := by simpa using g1
                                    have d2 : decide (c ≤ 57) = false := by simpa using g2
                                    have hz := HEx.out.done (by rw [re_at hk c HC.out, if_neg h95, if_neg (fun hh => g2 hh.2)])
                                    have HZ := Lib.hid hz
                                    clear hz
                                    go_wp2_with fail
                                    go_meet
                                    have hz := HZ.out
                                    cases hz
                                    exact ⟨rfl, rfl, rfl⟩
                                · have d1 : decide (48 ≤ c) = false := by simpa using g1
                                  have hz := HEx.out.done (by rw [re_at hk c HC.out, if_neg h95, if_neg (fun hh => g1 hh.1)])
                                  have HZ := Lib.hid hz
                                  clear hz
                                  go_wp2_with fail
                                  go_meet
                                  have hz := HZ.out
                                  cases hz
                                  exact ⟨rfl, rfl, rfl⟩
                            · go_wp2_with fail
                              go_meet
                              have hz := HEx.out.done (re_out hk)
                              cases hz
                              exact ⟨rfl, rfl, rfl⟩
                        case rest =>
                          obtain ⟨rfl, rfl, rfl⟩ := hcut
                          have hmul := HMul.out
                          have hdp := H3.out.dp
                          have hf1 := H3.out.fr 801
                          dsimp only at hdp
                          go_wp2_with fail
                          go_meet
                          exact ⟨(by first | exact rfl | exact trivial), (by first | exact rfl | exact trivial), z1, H3.out.setdp _, below_set H4.out hB _⟩
                · have hX2 := HX.out
                  rw [rfExp, if_pos (show zi < s.size ∧ low (byt s zi) = (if false = true then (112 : Int) else 101) from ⟨hb1, hb2⟩), if_neg h2] at hX2
                  cases hX2
                  have hok : OK = false := HOK.out
                  have e2 : (s.size : Int) ≤ (zi : Int) + 1 := by omega
                  go_wp2_with fail
                  rw [HQ.out]
                  exact ⟨congrArg (fun z => Ending.returned (Value.bool z)) hok.symm, H4.out, fun e => by rw [hok] at e; cases e⟩
              · obtain rfl : B1 = false := by rw [HB1.out]; simpa using hb
                have hX2 := HX.out
                rw [rfExp, if_neg (show ¬ (zi < s.size ∧ low (byt s zi) = (if false = true then (112 : Int) else 101)) from hb)] at hX2
                cases hX2
                clear hb
                go_wp2_with fail
                go_meet
                exact ⟨rfl, rfl, hfi, H3.out, H4.out⟩
            case rest =>
              obtain ⟨rfl, rfl, hn, h3, h4⟩ := hcut
              have hok : OK = decide (xn = s.size) := by rw [HOK.out]; rfl
              have hokk : DX = ⟨zd, znd, xdp, zng, ztr⟩ := HDX.out
              by_cases hx : xn = s.size
              · have ho : OK = true := by rw [hok]; simpa using hx
                have hnb : ((xn : Int) != s.size) = false := by simp; omega
                have hnb2 : (xn != s.size) = false := by simp; omega
                have HO := Lib.hid ho
                have HDD := Lib.hid hokk
                have H3' := Lib.hid h3
                have H4' := Lib.hid h4
                clear hok ho hokk h3 h4 hx
                go_wp2_with fail
                rw [HQ.out]
                exact ⟨congrArg (fun z => Ending.returned (Value.bool z)) HO.out.symm, H4'.out, fun _ => by rw [HDD.out]; exact H3'.out⟩
              · have ho : OK = false := by rw [hok]; simpa using hx
                have hnb : ((xn : Int) != s.size) = true := by simp; omega
                have hnb2 : (xn != s.size) = true := by simp; omega
                have HO := Lib.hid ho
                have H4' := Lib.hid h4
                clear hok ho hokk h3 h4 hx
                go_wp2_with fail
                rw [HQ.out]
                exact ⟨congrArg (fun z => Ending.returned (Value.bool z)) HO.out.symm, H4'.out, fun e => by rw [HO.out] at e; cases e⟩
theorem set_empty (s : ByteArray) (h0 : s.size = 0) (B b : Nat) (w : World) (hB : B ≤ b) (h : DecAt w b ⟨fun _ => 0, 0, 0, false, false⟩) (y : Dec) :
    Calls Tryz.prog 246 #[.pointer (some ⟨b, 0, none⟩), .string s] w (SetPost B b w false y) := by
  obtain ⟨Q, hQ⟩ : ∃ Q, Q = SetPost B b w false y := ⟨_, rfl⟩
  rw [← hQ]
  have HQ := Lib.hid hQ
  have hng := h.ng
  have htr := h.tr
  have hf2 := h.fr 802
  have hf3 := h.fr 803
  dsimp only at hng htr
  clear hQ h
  have h1 : (s.size : Int) ≤ 0 := by omega
  go_enter Tryz.func246, Tryz.ntmps246
  go_wp2_with fail
  rw [HQ.out]
  exact ⟨rfl, below_set (below_set (Below.refl B w) hB _) hB _, fun e => by cases e⟩
/-- set: total; whether the text is a number, and the decimal, hang on the text alone. -/
theorem set_any (s : ByteArray) (hs : (s.size : Int) ≤ 1000000) : ∃ (ok : Bool) (y : Dec), (ok = true → DecJ y) ∧ ∀ (B b : Nat) (w : World), B ≤ b → DecAt w b ⟨fun _ => 0, 0, 0, false, false⟩ → Calls Tryz.prog 246 #[.pointer (some ⟨b, 0, none⟩), .string s] w (SetPost B b w ok y) := by
  by_cases h0 : s.size = 0
  · exact ⟨false, ⟨fun _ => 0, 0, 0, false, false⟩, (by intro e; cases e), fun B b w hB h => set_empty s h0 B b w hB h _⟩
  · have hi1 : rfI1 s ≤ 1 := by unfold rfI1; split <;> (try split) <;> omega
    obtain ⟨Z, hE, hI, hN⟩ := ends_some (step := sdStep s) (SDI s) (fun x => s.size - x.i) (sd_keep s) _ (sdStart s) (Nat.le_refl _) ⟨by show rfI1 s ≤ s.size; omega, by show 0 ≤ 800; omega, Nat.zero_le _, fun j hj => absurd hj (by show ¬ j < 0; omega), fun hh => absurd hh (by show ¬ 0 < 0; omega), by show -(rfI1 s : Int) ≤ 0; omega, by show (0 : Int) ≤ rfI1 s; omega⟩
    refine ⟨sdOk s Z, sdDec s Z, fun _ => ?_, fun B b w hB h => set_run s hs (by omega) Z hI hE B b w hB h⟩
    rcases Nat.eq_zero_or_pos Z.x.nd with e | e
    · exact Or.inl e
    · exact Or.inr ⟨e, hI.nd, hI.dig, hI.hd e⟩
end Go.Proofs.YtnggkkdcddpjlaaGreatDoor
