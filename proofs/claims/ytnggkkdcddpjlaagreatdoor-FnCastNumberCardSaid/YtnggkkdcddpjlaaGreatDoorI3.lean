/- cast's own zzNumber, trimDecimal; parseInt[int], parseUint[uint8]. -/
import Derived.Test.YtnggkkdcddpjlaaGreatDoorI2
import Derived.Test.YtnggkkdcddpjlaaGreatDoorT7
namespace Go.Proofs.YtnggkkdcddpjlaaGreatDoor
open Go.RowKit
set_option maxRecDepth 100000
set_option linter.unusedVariables false
set_option linter.unusedSimpArgs false
/-- Where a run of decimal digits ends. -/
def dgF (s : ByteArray) : Nat → Nat → Nat
  | 0, p => p
  | f + 1, p => if p < s.size ∧ 48 ≤ byt s p ∧ byt s p ≤ 57 then dgF s f (p + 1) else p
theorem dgF_in (s : ByteArray) : ∀ f p, p ≤ s.size → dgF s f p ≤ s.size ∧ p ≤ dgF s f p
  | 0, p, h => ⟨h, Nat.le_refl _⟩
  | f + 1, p, h => by
    unfold dgF
    split
    · have := dgF_in s f (p + 1) (by omega)
      omega
    · omega
def znA (s : ByteArray) : Nat := if 0 < s.size ∧ (byt s 0 = 45 ∨ byt s 0 = 43) then 1 else 0
def znB (s : ByteArray) : Nat := dgF s (s.size - znA s) (znA s)
def znC (s : ByteArray) : Nat := if znB s < s.size ∧ byt s (znB s) = 46 then dgF s (s.size - (znB s + 1)) (znB s + 1) else znB s
theorem znA_le (s : ByteArray) : znA s ≤ s.size := by unfold znA; split <;> omega
theorem znB_le (s : ByteArray) : znB s ≤ s.size := (dgF_in s _ _ (znA_le s)).1
theorem znC_le (s : ByteArray) : znC s ≤ s.size := by
  unfold znC
  split
  · exact (dgF_in s _ _ (by omega)).1
  · exact znB_le s
set_option maxHeartbeats 2000000 in
theorem number_run (s : ByteArray) (hs : s.size ≤ 1000000) (w : World) : Calls Tryz.prog 188 #[.string s] w fun e w' => e = .returned (.tuple #[.string (s.extract 0 (znB s)), .bool (decide (znC s = s.size))]) ∧ w' = w := by
  obtain ⟨A, hA⟩ : ∃ a, a = znA s := ⟨_, rfl⟩
  obtain ⟨B, hB⟩ : ∃ a, a = znB s := ⟨_, rfl⟩
  obtain ⟨C, hC⟩ : ∃ a, a = znC s := ⟨_, rfl⟩
  have hA1 : A ≤ s.size := by rw [hA]; exact znA_le s
  have hB1 : B ≤ s.size := by rw [hB]; exact znB_le s
  have hC1 : C ≤ s.size := by rw [hC]; exact znC_le s
  have HBB : Hid (dgF s (s.size - A) A = B) := Lib.hid (by rw [hA, hB]; rfl)
  have HCC : Hid (C = if B < s.size ∧ byt s B = 46 then dgF s (s.size - (B + 1)) (B + 1) else B) := Lib.hid (by rw [hC, hB]; rfl)
  rw [← hB, ← hC]
  have HA := Lib.hid hA
  obtain ⟨Q, hQ⟩ : ∃ Q : Ending → World → Prop, Q = fun e w' => e = .returned (.tuple #[.string (s.extract 0 B), .bool (decide (C = s.size))]) ∧ w' = w := ⟨_, rfl⟩
  rw [← hQ]
  have HQ := Lib.hid hQ
  have HBy := Lib.hid (fun k (h : k < s.size) => byt_at h)
  clear hA hB hC hQ
  go_enter Tryz.func188, Tryz.ntmps188
  go_upto_region 2 with fail
  go_cut [21] from 6 to 20 (fun b wr => w = wr ∧ b = .bool (decide (A = 1)))
  case first =>
    by_cases h0 : 0 < s.size
    · have hb0 := HBy.out 0 h0
      have hs0 : (0 : Int) < s.size := by omega
      obtain ⟨c0, hc0⟩ : ∃ c, byt s 0 = c := ⟨_, rfl⟩
      rw [hc0] at hb0
      have HAA : Hid (A = if c0 = 45 ∨ c0 = 43 then 1 else 0) := Lib.hid (by rw [HA.out]; unfold znA; rw [hc0]; simp [h0])
      clear hc0
      by_cases h45 : c0 = 45
      · have ha : A = 1 := by rw [HAA.out, if_pos (Or.inl h45)]
        have HX := Lib.hid ha
        subst h45
        clear ha
        go_wp2_with fail
        go_meet
        exact ⟨rfl, by rw [HX.out]; rfl⟩
      · have b45 : (c0 == 45) = false := by simpa using h45
        by_cases h43 : c0 = 43
        · have ha : A = 1 := by rw [HAA.out, if_pos (Or.inr h43)]
          have HX := Lib.hid ha
          subst h43
          clear ha
          go_wp2_with fail
          go_meet
          exact ⟨rfl, by rw [HX.out]; rfl⟩
        · have b43 : (c0 == 43) = false := by simpa using h43
          have ha : A = 0 := by rw [HAA.out, if_neg (fun h => h.elim h45 h43)]
          have HX := Lib.hid ha
          clear ha
          go_wp2_with fail
          go_meet
          exact ⟨rfl, by rw [HX.out]; rfl⟩
    · have ha : A = 0 := by omega
      have HX := Lib.hid ha
      have hs0 : ¬ (0 : Int) < s.size := by omega
      clear ha
      go_wp2_with fail
      go_meet
      exact ⟨rfl, by rw [HX.out]; rfl⟩
  case rest =>
    obtain ⟨rfl, rfl⟩ := hcut
    have hA01 : A = 0 ∨ A = 1 := by rw [HA.out]; unfold znA; split <;> simp
    go_upto_if 21 with fail
    go_cut [4] from 21 to 23 (fun i wr => w = wr ∧ i = .int .i64 A)
    case first =>
      rcases hA01 with rfl | rfl
      all_goals
        go_wp2_with fail
        go_meet
        exact ⟨rfl, rfl⟩
    case rest =>
      obtain ⟨rfl, rfl⟩ := hcut
      go_upto_block 0 with fail
      go_cut [4] from 24 to 41 (fun i wr => w = wr ∧ i = .int .i64 B)
      case first =>
        go_wp2_with fail
        go_loopg [4] (s.size - A) (fun g i wr => ∃ p : Nat, g + p = s.size ∧ w = wr ∧ i = .int .i64 p ∧ dgF s g p = B)
        case atStart => exact ⟨A, by omega, rfl, rfl, HBB.out⟩
        case round =>
          obtain ⟨p, h1, rfl, rfl, h2⟩ := hrel
          have H2 := Lib.hid h2
          clear h2
          cases gk with
          | zero =>
            have hp : (s.size : Int) ≤ p := by omega
            have hb : p = B := H2.out
            subst hb
            go_wp2_with fail
            go_meet
            exact ⟨rfl, rfl⟩
          | succ g =>
            have hp : p < s.size := by omega
            have hp2 : (p : Int) < s.size := by omega
            have hbp := HBy.out p hp
            have hci := byt_in s p
            obtain ⟨c, hc⟩ : ∃ c, byt s p = c := ⟨_, rfl⟩
            rw [hc] at hbp hci
            have H3 : Hid ((if 48 ≤ c ∧ c ≤ 57 then dgF s g (p + 1) else p) = B) := Lib.hid (by
              have h2 := H2.out
              rw [dgF, hc] at h2
              rw [← h2]
              simp [hp])
            clear hc
            by_cases g1 : 48 ≤ c
            · have b1 : decide (48 ≤ c) = true := by simpa using g1
              by_cases g2 : c ≤ 57
              · have b2 : decide (c ≤ 57) = true := by simpa using g2
                have H4 : Hid (dgF s g (p + 1) = B) := Lib.hid (by have h3 := H3.out; rw [if_pos ⟨g1, g2⟩] at h3; exact h3)
                go_wp2_with fail
                go_roundg g
                case measure => omega
                case rel => exact ⟨p + 1, by omega, rfl, by simp, H4.out⟩
              · have b2 : decide (c ≤ 57) = false := by simpa using g2
                have hb : p = B := by have h3 := H3.out; rw [if_neg (fun h => g2 h.2)] at h3; exact h3
                subst hb
                go_wp2_with fail
                go_meet
                exact ⟨rfl, rfl⟩
            · have b1 : decide (48 ≤ c) = false := by simpa using g1
              have hb : p = B := by have h3 := H3.out; rw [if_neg (fun h => g1 h.1)] at h3; exact h3
              subst hb
              go_wp2_with fail
              go_meet
              exact ⟨rfl, rfl⟩
      case rest =>
        obtain ⟨rfl, rfl⟩ := hcut
        have hB0 : (0 : Int) ≤ B := by omega
        have hB2 : (B : Int) ≤ s.size := by omega
        by_cases hd : B < s.size ∧ byt s B = 46
        · obtain ⟨hd1, hd2⟩ := hd
          have hd3 : (B : Int) < s.size := by omega
          have hbB := HBy.out B hd1
          rw [hd2] at hbB
          have HC2 : Hid (dgF s (s.size - (B + 1)) (B + 1) = C) := Lib.hid (by rw [HCC.out, if_pos ⟨hd1, hd2⟩])
          clear hd2
          go_wp2_with fail
          go_loopg [4] (s.size - (B + 1)) (fun g i wr => ∃ p : Nat, g + p = s.size ∧ w = wr ∧ i = .int .i64 p ∧ dgF s g p = C)
          case atStart => exact ⟨B + 1, by omega, rfl, by simp, HC2.out⟩
          case round =>
            obtain ⟨p, h1, rfl, rfl, h2⟩ := hrel
            have H2 := Lib.hid h2
            clear h2
            cases gk with
            | zero =>
              have hp : (s.size : Int) ≤ p := by omega
              have hb : p = C := H2.out
              subst hb
              have hx : (p == s.size) = true := by simp; omega
              have hx2 : ((p : Int) == s.size) = true := by simp; omega
              have HXX : Hid (decide (p = s.size) = true) := Lib.hid (by simp; omega)
              go_wp2_with fail
              rw [HQ.out, HXX.out]
              exact ⟨rfl, rfl⟩
            | succ g =>
              have hp : p < s.size := by omega
              have hp2 : (p : Int) < s.size := by omega
              have hbp := HBy.out p hp
              have hci := byt_in s p
              obtain ⟨c, hc⟩ : ∃ c, byt s p = c := ⟨_, rfl⟩
              rw [hc] at hbp hci
              have H3 : Hid ((if 48 ≤ c ∧ c ≤ 57 then dgF s g (p + 1) else p) = C) := Lib.hid (by
                have h2 := H2.out
                rw [dgF, hc] at h2
                rw [← h2]
                simp [hp])
              clear hc
              have HNX : p = C → Hid (decide (C = s.size) = false) := fun h => Lib.hid (by simp; omega)
              have hx : (p == s.size) = false := by simp; omega
              have hx2 : ((p : Int) == s.size) = false := by simp; omega
              by_cases g1 : 48 ≤ c
              · have b1 : decide (48 ≤ c) = true := by simpa using g1
                by_cases g2 : c ≤ 57
                · have b2 : decide (c ≤ 57) = true := by simpa using g2
                  have H4 : Hid (dgF s g (p + 1) = C) := Lib.hid (by have h3 := H3.out; rw [if_pos ⟨g1, g2⟩] at h3; exact h3)
                  clear HNX hx hx2
                  go_wp2_with fail
                  go_roundg g
                  case measure => omega
                  case rel => exact ⟨p + 1, by omega, rfl, by simp, H4.out⟩
                · have b2 : decide (c ≤ 57) = false := by simpa using g2
                  have hb : p = C := by have h3 := H3.out; rw [if_neg (fun h => g2 h.2)] at h3; exact h3
                  have HXX := HNX hb
                  clear HNX
                  subst hb
                  go_wp2_with fail
                  rw [HQ.out, HXX.out]
                  exact ⟨rfl, rfl⟩
              · have b1 : decide (48 ≤ c) = false := by simpa using g1
                have hb : p = C := by have h3 := H3.out; rw [if_neg (fun h => g1 h.1)] at h3; exact h3
                have HXX := HNX hb
                clear HNX
                subst hb
                go_wp2_with fail
                rw [HQ.out, HXX.out]
                exact ⟨rfl, rfl⟩
        · have hc : C = B := by rw [HCC.out, if_neg hd]
          subst hc
          by_cases hz : C = s.size
          · have hx : (C == s.size) = true := by simpa using hz
            have hx2 : ((C : Int) == s.size) = true := by simp; omega
            have HXX : Hid (decide (C = s.size) = true) := Lib.hid (by simpa using hz)
            have hlt : ¬ (C : Int) < s.size := by omega
            clear hz hd
            go_wp2_with fail
            rw [HQ.out, HXX.out]
            exact ⟨rfl, rfl⟩
          · have hx : (C == s.size) = false := by simpa using hz
            have hx2 : ((C : Int) == s.size) = false := by simp; omega
            have HXX : Hid (decide (C = s.size) = false) := Lib.hid (by simpa using hz)
            have hlt : C < s.size := by omega
            have hlt2 : (C : Int) < s.size := by omega
            have hbB := HBy.out C hlt
            have hne : (byt s C == 46) = false := by simpa using fun h => hd ⟨hlt, h⟩
            clear hz hd
            go_wp2_with fail
            rw [HQ.out, HXX.out]
            exact ⟨rfl, rfl⟩
/-- What trimDecimal makes of a text. -/
def trW (x : ByteArray) : ByteArray := if (x.toList == [45]) = true then x ++ ⟨#[48]⟩ else if (x.toList == [43]) = true then x ++ ⟨#[48]⟩ else if x.toList.isEmpty = true then ⟨#[48]⟩ else x
def trS (s : ByteArray) : ByteArray := if decide (0 ≤ Lib.indexB s ⟨#[46]⟩) = true then (if znC s = s.size then trW (s.extract 0 (znB s)) else s) else s
theorem app_size (x : ByteArray) : (x ++ (⟨#[48]⟩ : ByteArray)).size = x.size + 1 := by rw [ByteArray.size_append]; rfl
theorem trS_size (s : ByteArray) : (trS s).size ≤ s.size + 1 := by
  have h1 : ∀ x : ByteArray, (trW x).size ≤ x.size + 1 := fun x => by
    unfold trW
    split
    · rw [app_size]; omega
    · split
      · rw [app_size]; omega
      · split
        · show 1 ≤ _; omega
        · omega
  unfold trS
  split
  · split
    · have := h1 (s.extract 0 (znB s))
      rw [ByteArray.size_extract] at this
      omega
    · omega
  · omega
set_option maxHeartbeats 2000000 in
theorem trim_any (s : ByteArray) (hs : s.size ≤ 900000) (w : World) : Calls Tryz.prog 156 #[.string s] w fun e w' => e = .returned (.string (trS s)) ∧ w' = w := by
  cases hdot : decide (0 ≤ Lib.indexB s ⟨#[46]⟩) with
  | false =>
    have e : trS s = s := by unfold trS; rw [hdot]; rfl
    rw [e]
    exact (trim_no s (by omega) hdot w).mono fun e w' ⟨h1, h2⟩ => ⟨h1, h2.symm⟩
  | true =>
    obtain ⟨R, hR⟩ : ∃ r, r = trS s := ⟨_, rfl⟩
    rw [← hR]
    have hR2 : R = if znC s = s.size then trW (s.extract 0 (znB s)) else s := by rw [hR]; unfold trS; rw [hdot]; rfl
    obtain ⟨Q, hQ⟩ : ∃ Q : Ending → World → Prop, Q = fun e w' => e = .returned (.string R) ∧ w' = w := ⟨_, rfl⟩
    rw [← hQ]
    have HQ := Lib.hid hQ
    have hz : Calls Tryz.prog 187 #[.string s, .string ⟨#[46]⟩] w fun e w' => e = .returned (.bool true) ∧ w' = w := by
      refine (zzContains_any s ⟨#[46]⟩ (by omega) (by decide) (by decide) w).mono ?_
      rintro e w' ⟨rfl, rfl⟩
      exact ⟨by rw [hdot], rfl⟩
    have HZ := Lib.hid hz
    have hn := number_run s (by omega) w
    have hxs : (s.extract 0 (znB s)).size ≤ 1000000 := by rw [ByteArray.size_extract]; omega
    generalize s.extract 0 (znB s) = x at hR2 hn hxs
    clear hQ hz hdot hR
    by_cases hc : znC s = s.size
    · rw [if_pos hc] at hR2
      have hcd : decide (znC s = s.size) = true := by simpa using hc
      rw [hcd] at hn
      have HN := Lib.hid hn
      clear hn hcd hc
      unfold trW at hR2
      cases b1 : (x.toList == [45])
      · rw [b1, if_neg (by decide)] at hR2
        cases b2 : (x.toList == [43])
        · rw [b2, if_neg (by decide)] at hR2
          cases b3 : x.toList.isEmpty
          · have hx : R = x := by rw [hR2, b3]; rfl
            clear hR2
            have HX := Lib.hid hx
            clear hx
            go_enter Tryz.func156, Tryz.ntmps156
            go_wp2_with (first | (go_at_call 187; refine HZ.out.mono ?_; rintro e w' ⟨rfl, rfl⟩) | (go_at_call 188; refine HN.out.mono ?_; rintro e w' ⟨rfl, rfl⟩))
            rw [HQ.out, HX.out]
            exact ⟨rfl, rfl⟩
          · have hx : R = ⟨#[48]⟩ := by rw [hR2, b3]; rfl
            clear hR2
            have HX := Lib.hid hx
            clear hx
            go_enter Tryz.func156, Tryz.ntmps156
            go_wp2_with (first | (go_at_call 187; refine HZ.out.mono ?_; rintro e w' ⟨rfl, rfl⟩) | (go_at_call 188; refine HN.out.mono ?_; rintro e w' ⟨rfl, rfl⟩))
            rw [HQ.out, HX.out]
            exact ⟨rfl, rfl⟩
        · have hx : R = x ++ ⟨#[48]⟩ := by rw [hR2, b2]; rfl
          clear hR2
          have HX := Lib.hid hx
          clear hx
          go_enter Tryz.func156, Tryz.ntmps156
          go_wp2_with (first | (go_at_call 187; refine HZ.out.mono ?_; rintro e w' ⟨rfl, rfl⟩) | (go_at_call 188; refine HN.out.mono ?_; rintro e w' ⟨rfl, rfl⟩))
          rw [HQ.out, HX.out]
          exact ⟨rfl, rfl⟩
      · have hx : R = x ++ ⟨#[48]⟩ := by rw [hR2, b1]; rfl
        clear hR2
        have HX := Lib.hid hx
        clear hx
        go_enter Tryz.func156, Tryz.ntmps156
        go_wp2_with (first | (go_at_call 187; refine HZ.out.mono ?_; rintro e w' ⟨rfl, rfl⟩) | (go_at_call 188; refine HN.out.mono ?_; rintro e w' ⟨rfl, rfl⟩))
        rw [HQ.out, HX.out]
        exact ⟨rfl, rfl⟩
    · have hx : R = s := by rw [hR2, if_neg hc]
      have hcd : decide (znC s = s.size) = false := by simpa using hc
      rw [hcd] at hn
      have HN := Lib.hid hn
      clear hn hcd hc hR2
      have HX := Lib.hid hx
      clear hx
      go_enter Tryz.func156, Tryz.ntmps156
      go_wp2_with (first | (go_at_call 187; refine HZ.out.mono ?_; rintro e w' ⟨rfl, rfl⟩) | (go_at_call 188; refine HN.out.mono ?_; rintro e w' ⟨rfl, rfl⟩))
      rw [HQ.out, HX.out]
      exact ⟨rfl, rfl⟩
/-- parseInt[int]: total; the number, and whether there is an error, hang on the text alone. -/
theorem castInt_any (s : ByteArray) (hs : s.size ≤ 900000) : ∃ (v : Int) (bad : Bool), -9223372036854775808 ≤ v ∧ v ≤ 9223372036854775807 ∧ ∀ w, Good w → Calls Tryz.prog 115 #[.string s] w (NumPost w (.int .i64 v) bad) := by
  have hT := fun w => trim_any s hs w
  obtain ⟨v, bad, h0, h1, hP⟩ := parseInt_any (trS s) (by have := trS_size s; omega)
  have HT := Lib.hid hT
  have HP := Lib.hid hP
  clear hT hP
  cases bad with
  | false =>
    refine ⟨v, false, h0, h1, fun w hg => ?_⟩
    have HG := Lib.hid hg
    obtain ⟨Q, hQ⟩ : ∃ Q, Q = NumPost w (.int .i64 v) false := ⟨_, rfl⟩
    rw [← hQ]
    have HQ := Lib.hid hQ
    clear hg hQ
    go_enter Tryz.func115, Tryz.ntmps115
    go_wp2_with (first | (go_at_call 156; refine (HT.out _).mono ?_; rintro e w' ⟨rfl, rfl⟩) | (go_at_call 155; refine (HP.out _ HG.out).mono ?_; rintro e w' ⟨er, rfl, rfl, hb⟩))
    rw [HQ.out]
    exact ⟨_, rfl, rfl, hb⟩
  | true =>
    refine ⟨0, true, by omega, by omega, fun w hg => ?_⟩
    have HG := Lib.hid hg
    obtain ⟨Q, hQ⟩ : ∃ Q, Q = NumPost w (.int .i64 0) true := ⟨_, rfl⟩
    rw [← hQ]
    have HQ := Lib.hid hQ
    clear hg hQ
    go_enter Tryz.func115, Tryz.ntmps115
    go_wp2_with (first | (go_at_call 156; refine (HT.out _).mono ?_; rintro e w' ⟨rfl, rfl⟩) | (go_at_call 155; refine (HP.out _ HG.out).mono ?_; rintro e w' ⟨er, rfl, ⟨N, rfl⟩, hb⟩))
    rw [HQ.out]
    exact ⟨_, rfl, ⟨N, rfl⟩, hb⟩
/-- parseUint[uint8]. -/
theorem castU8_any (s : ByteArray) (hs : s.size ≤ 900000) : ∃ (v : Int) (bad : Bool), 0 ≤ v ∧ v ≤ 255 ∧ ∀ w, Good w → Calls Tryz.prog 117 #[.string s] w (NumPost w (.int .u8 v) bad) := by
  have hT := fun w => trim_any s hs w
  have htl := trS_size s
  have hL := fun w => trimLeft_run (trS s) (by omega) w
  have hls := tlS_size (trS s)
  obtain ⟨v, bad, h0, h1, hP⟩ := parseUint_any (tlS (trS s)) (by omega)
  have HT := Lib.hid hT
  have HP := Lib.hid hP
  have HL := Lib.hid hL
  have hu8 : 0 ≤ IntKind.u8.wrap v ∧ IntKind.u8.wrap v ≤ 255 := by rw [IntKind.wrap_u8]; omega
  clear hT hP hL
  cases bad with
  | false =>
    refine ⟨IntKind.u8.wrap v, false, hu8.1, hu8.2, fun w hg => ?_⟩
    have HG := Lib.hid hg
    obtain ⟨Q, hQ⟩ : ∃ Q, Q = NumPost w (.int .u8 (IntKind.u8.wrap v)) false := ⟨_, rfl⟩
    rw [← hQ]
    have HQ := Lib.hid hQ
    clear hg hQ hu8
    go_enter Tryz.func117, Tryz.ntmps117
    go_wp2_with (first | (go_at_call 156; refine (HT.out _).mono ?_; rintro e w' ⟨rfl, rfl⟩) | (go_at_call 159; refine (HL.out _).mono ?_; rintro e w1 ⟨rfl, hb1⟩; have HB1 := Lib.hid hb1; clear hb1) | (go_at_call 158; refine (HP.out _ (HG.out.on HB1.out)).mono ?_; rintro e w2 ⟨er, rfl, rfl, hb⟩))
    rw [HQ.out]
    exact ⟨_, rfl, rfl, belowOn HB1.out hb⟩
  | true =>
    refine ⟨0, true, by omega, by omega, fun w hg => ?_⟩
    have HG := Lib.hid hg
    obtain ⟨Q, hQ⟩ : ∃ Q, Q = NumPost w (.int .u8 0) true := ⟨_, rfl⟩
    rw [← hQ]
    have HQ := Lib.hid hQ
    clear hg hQ hu8
    go_enter Tryz.func117, Tryz.ntmps117
    go_wp2_with (first | (go_at_call 156; refine (HT.out _).mono ?_; rintro e w' ⟨rfl, rfl⟩) | (go_at_call 159; refine (HL.out _).mono ?_; rintro e w1 ⟨rfl, hb1⟩; have HB1 := Lib.hid hb1; clear hb1) | (go_at_call 158; refine (HP.out _ (HG.out.on HB1.out)).mono ?_; rintro e w2 ⟨er, rfl, ⟨N, rfl⟩, hb⟩))
    rw [HQ.out]
    exact ⟨_, rfl, ⟨N, rfl⟩, belowOn HB1.out hb⟩
end Go.Proofs.YtnggkkdcddpjlaaGreatDoor
