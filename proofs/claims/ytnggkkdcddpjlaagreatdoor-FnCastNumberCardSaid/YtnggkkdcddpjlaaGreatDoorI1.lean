/- internal/strconv.ParseInt, strconv.ParseInt, strconv.ParseUint at base 0: total; their answers hang on the text alone. -/
import Derived.Test.YtnggkkdcddpjlaaGreatDoorI0
namespace Go.Proofs.YtnggkkdcddpjlaaGreatDoor
open Go.RowKit
set_option maxRecDepth 100000
set_option linter.unusedVariables false
set_option linter.unusedSimpArgs false
theorem w63 : wrap64 (-wrap64 9223372036854775808) = -9223372036854775808 := by unfold wrap64; omega
theorem neq_rng (w : World) : (binOp .neq 73 (.iface 257 (.int .i64 1)) (.iface 257 (.int .i64 1))).run Tryz.prog w = .ok (.bool false) w := by kernel_rfl
theorem neq_syn (w : World) : (binOp .neq 73 (.iface 257 (.int .i64 2)) (.iface 257 (.int .i64 1))).run Tryz.prog w = .ok (.bool true) w := by kernel_rfl
def IntPost (w : World) (v : Int) (k : Nat) (e : Ending) (w' : World) : Prop := e = .returned (.tuple #[.int .i64 v, er3 k]) ∧ Below w.heap.size w w'
def piOut (neg : Bool) (u : Int) (k : Nat) : Int × Nat :=
  if k = 2 then (0, 2) else if neg = true then (if 9223372036854775808 < u then (-9223372036854775808, 1) else (-u, 0)) else (if 9223372036854775808 ≤ u then (9223372036854775807, 1) else (u, 0))
theorem piOut_in (neg : Bool) (u : Int) (k : Nat) (h0 : 0 ≤ u) (hk : k ≤ 2) : -9223372036854775808 ≤ (piOut neg u k).1 ∧ (piOut neg u k).1 ≤ 9223372036854775807 ∧ (piOut neg u k).2 ≤ 2 := by
  unfold piOut
  (repeat' split) <;> exact ⟨by dsimp only; omega, by dsimp only; omega, by dsimp only; omega⟩
set_option maxHeartbeats 1000000 in
theorem pi_plus (s : ByteArray) (hs : (s.size : Int) ≤ 1000000) (h0 : 0 < s.size) (hc : byt s 0 = 43) (u : Int) (k : Nat) (hu0 : 0 ≤ u) (hu1 : u < 18446744073709551616) (hk : k ≤ 2) (hP : ∀ w, Calls Tryz.prog 189 #[.string (s.extract 1 s.size), .int .i64 0, .int .i64 0] w (UintPost w u k)) (w : World) :
    Calls Tryz.prog 186 #[.string s, .int .i64 0, .int .i64 0] w (IntPost w (piOut false u k).1 (piOut false u k).2) := by
  have hne : s.toList.isEmpty = false := by
    rw [← decide_eq_emptyBytes]
    exact decide_eq_false (fun h => by rw [h] at h0; exact absurd h0 (by decide))
  have hb0 := byt_at h0
  have hs1 : (1 : Int) ≤ s.size := by omega
  have hs0 : (0 : Int) < s.size := by omega
  rw [hc] at hb0
  have HP := Lib.hid hP
  clear hP
  rcases (show k = 0 ∨ k = 1 ∨ k = 2 by omega) with rfl | rfl | rfl
  · obtain ⟨Q, hQ⟩ : ∃ Q, Q = IntPost w (piOut false u 0).1 (piOut false u 0).2 := ⟨_, rfl⟩
    rw [← hQ]
    have HQ := Lib.hid hQ
    clear hQ
    unfold UintPost er3 at HP
    rw [if_pos rfl] at HP
    by_cases hr : 9223372036854775808 ≤ u
    · have hz : piOut false u 0 = (9223372036854775807, 1) := by unfold piOut; rw [if_neg (by decide), if_neg (by decide), if_pos hr]
      have HZ := Lib.hid hz
      have b1 : decide (9223372036854775808 ≤ u) = true := by simpa using hr
      clear hz
      go_enter Tryz.func186, Tryz.ntmps186
      go_wp2_with (go_at_call 189; refine (HP.out _).mono ?_; rintro r w1 ⟨rfl, hb⟩; have HB := Lib.hid hb; clear hb)
      all_goals rw [HQ.out, HZ.out]
      all_goals exact ⟨rfl, HB.out⟩
    · have hz : piOut false u 0 = (u, 0) := by unfold piOut; rw [if_neg (by decide), if_neg (by decide), if_neg hr]
      have HZ := Lib.hid hz
      have b1 : decide (9223372036854775808 ≤ u) = false := by simpa using hr
      clear hz
      go_enter Tryz.func186, Tryz.ntmps186
      go_wp2_with (go_at_call 189; refine (HP.out _).mono ?_; rintro r w1 ⟨rfl, hb⟩; have HB := Lib.hid hb; clear hb)
      all_goals rw [HQ.out, HZ.out]
      all_goals exact ⟨rfl, HB.out⟩
  · obtain ⟨Q, hQ⟩ : ∃ Q, Q = IntPost w (piOut false u 1).1 (piOut false u 1).2 := ⟨_, rfl⟩
    rw [← hQ]
    have HQ := Lib.hid hQ
    clear hQ
    unfold UintPost er3 at HP
    rw [if_neg (by decide)] at HP
    have hnr := fun w => neq_rng w
    by_cases hr : 9223372036854775808 ≤ u
    · have hz : piOut false u 1 = (9223372036854775807, 1) := by unfold piOut; rw [if_neg (by decide), if_neg (by decide), if_pos hr]
      have HZ := Lib.hid hz
      have b1 : decide (9223372036854775808 ≤ u) = true := by simpa using hr
      clear hz
      go_enter Tryz.func186, Tryz.ntmps186
      go_wp2_with (go_at_call 189; refine (HP.out _).mono ?_; rintro r w1 ⟨rfl, hb⟩; have HB := Lib.hid hb; clear hb)
      all_goals rw [HQ.out, HZ.out]
      all_goals exact ⟨rfl, HB.out⟩
    · have hz : piOut false u 1 = (u, 0) := by unfold piOut; rw [if_neg (by decide), if_neg (by decide), if_neg hr]
      have HZ := Lib.hid hz
      have b1 : decide (9223372036854775808 ≤ u) = false := by simpa using hr
      clear hz
      go_enter Tryz.func186, Tryz.ntmps186
      go_wp2_with (go_at_call 189; refine (HP.out _).mono ?_; rintro r w1 ⟨rfl, hb⟩; have HB := Lib.hid hb; clear hb)
      all_goals rw [HQ.out, HZ.out]
      all_goals exact ⟨rfl, HB.out⟩
  · obtain ⟨Q, hQ⟩ : ∃ Q, Q = IntPost w (piOut false u 2).1 (piOut false u 2).2 := ⟨_, rfl⟩
    rw [← hQ]
    have HQ := Lib.hid hQ
    clear hQ
    unfold UintPost er3 at HP
    rw [if_neg (by decide)] at HP
    have hnr := fun w => neq_syn w
    go_enter Tryz.func186, Tryz.ntmps186
    go_wp2_with (go_at_call 189; refine (HP.out _).mono ?_; rintro r w1 ⟨rfl, hb⟩; have HB := Lib.hid hb; clear hb)
    all_goals rw [HQ.out]
    all_goals exact ⟨rfl, HB.out⟩
set_option maxHeartbeats 1000000 in
theorem pi_minus (s : ByteArray) (hs : (s.size : Int) ≤ 1000000) (h0 : 0 < s.size) (hc : byt s 0 = 45) (u : Int) (k : Nat) (hu0 : 0 ≤ u) (hu1 : u < 18446744073709551616) (hk : k ≤ 2) (hP : ∀ w, Calls Tryz.prog 189 #[.string (s.extract 1 s.size), .int .i64 0, .int .i64 0] w (UintPost w u k)) (w : World) :
    Calls Tryz.prog 186 #[.string s, .int .i64 0, .int .i64 0] w (IntPost w (piOut true u k).1 (piOut true u k).2) := by
  have hne : s.toList.isEmpty = false := by
    rw [← decide_eq_emptyBytes]
    exact decide_eq_false (fun h => by rw [h] at h0; exact absurd h0 (by decide))
  have hb0 := byt_at h0
  have hs1 : (1 : Int) ≤ s.size := by omega
  have hs0 : (0 : Int) < s.size := by omega
  rw [hc] at hb0
  have HP := Lib.hid hP
  clear hP
  rcases (show k = 0 ∨ k = 1 ∨ k = 2 by omega) with rfl | rfl | rfl
  · obtain ⟨Q, hQ⟩ : ∃ Q, Q = IntPost w (piOut true u 0).1 (piOut true u 0).2 := ⟨_, rfl⟩
    rw [← hQ]
    have HQ := Lib.hid hQ
    clear hQ
    unfold UintPost er3 at HP
    rw [if_pos rfl] at HP
    by_cases hr : 9223372036854775808 < u
    · have hz : piOut true u 0 = (-9223372036854775808, 1) := by unfold piOut; rw [if_neg (by decide), if_pos rfl, if_pos hr]
      have HZ := Lib.hid hz
      have b1 : decide (9223372036854775808 < u) = true := by simpa using hr
      clear hz
      go_enter Tryz.func186, Tryz.ntmps186
      go_wp2_with (go_at_call 189; refine (HP.out _).mono ?_; rintro r w1 ⟨rfl, hb⟩; have HB := Lib.hid hb; clear hb)
      all_goals rw [HQ.out, HZ.out]
      all_goals exact ⟨congrArg (fun z => Ending.returned (Value.tuple #[Value.int .i64 z, Value.iface 257 (.int .i64 1)])) w63, HB.out⟩
    · have hz : piOut true u 0 = (-u, 0) := by unfold piOut; rw [if_neg (by decide), if_pos rfl, if_neg hr]
      have HZ := Lib.hid hz
      have b1 : decide (9223372036854775808 < u) = false := by simpa using hr
      have hwn : wrap64 (-(wrap64 u)) = -u := by unfold wrap64; omega
      have HWN := Lib.hid hwn
      clear hwn
      clear hz
      go_enter Tryz.func186, Tryz.ntmps186
      go_wp2_with (go_at_call 189; refine (HP.out _).mono ?_; rintro r w1 ⟨rfl, hb⟩; have HB := Lib.hid hb; clear hb)
      all_goals rw [HQ.out, HZ.out]
      all_goals exact ⟨(by first | rfl | (rw [← HWN.out]; rfl)), HB.out⟩
  · obtain ⟨Q, hQ⟩ : ∃ Q, Q = IntPost w (piOut true u 1).1 (piOut true u 1).2 := ⟨_, rfl⟩
    rw [← hQ]
    have HQ := Lib.hid hQ
    clear hQ
    unfold UintPost er3 at HP
    rw [if_neg (by decide)] at HP
    have hnr := fun w => neq_rng w
    by_cases hr : 9223372036854775808 < u
    · have hz : piOut true u 1 = (-9223372036854775808, 1) := by unfold piOut; rw [if_neg (by decide), if_pos rfl, if_pos hr]
      have HZ := Lib.hid hz
      have b1 : decide (9223372036854775808 < u) = true := by simpa using hr
      clear hz
      go_enter Tryz.func186, Tryz.ntmps186
      go_wp2_with (go_at_call 189; refine (HP.out _).mono ?_; rintro r w1 ⟨rfl, hb⟩; have HB := Lib.hid hb; clear hb)
      all_goals rw [HQ.out, HZ.out]
      all_goals exact ⟨congrArg (fun z => Ending.returned (Value.tuple #[Value.int .i64 z, Value.iface 257 (.int .i64 1)])) w63, HB.out⟩
    · have hz : piOut true u 1 = (-u, 0) := by unfold piOut; rw [if_neg (by decide), if_pos rfl, if_neg hr]
      have HZ := Lib.hid hz
      have b1 : decide (9223372036854775808 < u) = false := by simpa using hr
      have hwn : wrap64 (-(wrap64 u)) = -u := by unfold wrap64; omega
      have HWN := Lib.hid hwn
      clear hwn
      clear hz
      go_enter Tryz.func186, Tryz.ntmps186
      go_wp2_with (go_at_call 189; refine (HP.out _).mono ?_; rintro r w1 ⟨rfl, hb⟩; have HB := Lib.hid hb; clear hb)
      all_goals rw [HQ.out, HZ.out]
      all_goals exact ⟨(by first | rfl | (rw [← HWN.out]; rfl)), HB.out⟩
  · obtain ⟨Q, hQ⟩ : ∃ Q, Q = IntPost w (piOut true u 2).1 (piOut true u 2).2 := ⟨_, rfl⟩
    rw [← hQ]
    have HQ := Lib.hid hQ
    clear hQ
    unfold UintPost er3 at HP
    rw [if_neg (by decide)] at HP
    have hnr := fun w => neq_syn w
    go_enter Tryz.func186, Tryz.ntmps186
    go_wp2_with (go_at_call 189; refine (HP.out _).mono ?_; rintro r w1 ⟨rfl, hb⟩; have HB := Lib.hid hb; clear hb)
    all_goals rw [HQ.out]
    all_goals exact ⟨rfl, HB.out⟩
set_option maxHeartbeats 1000000 in
theorem pi_none (s : ByteArray) (hs : (s.size : Int) ≤ 1000000) (h0 : 0 < s.size) (hc : byt s 0 ≠ 43) (hd : byt s 0 ≠ 45) (u : Int) (k : Nat) (hu0 : 0 ≤ u) (hu1 : u < 18446744073709551616) (hk : k ≤ 2) (hP : ∀ w, Calls Tryz.prog 189 #[.string s, .int .i64 0, .int .i64 0] w (UintPost w u k)) (w : World) :
    Calls Tryz.prog 186 #[.string s, .int .i64 0, .int .i64 0] w (IntPost w (piOut false u k).1 (piOut false u k).2) := by
  have hne : s.toList.isEmpty = false := by
    rw [← decide_eq_emptyBytes]
    exact decide_eq_false (fun h => by rw [h] at h0; exact absurd h0 (by decide))
  have hb0 := byt_at h0
  have hs1 : (1 : Int) ≤ s.size := by omega
  have hs0 : (0 : Int) < s.size := by omega
  have b43 : (byt s 0 == 43) = false := by simpa using hc
  have b45 : (byt s 0 == 45) = false := by simpa using hd
  have HP := Lib.hid hP
  clear hP
  rcases (show k = 0 ∨ k = 1 ∨ k = 2 by omega) with rfl | rfl | rfl
  · obtain ⟨Q, hQ⟩ : ∃ Q, Q = IntPost w (piOut false u 0).1 (piOut false u 0).2 := ⟨_, rfl⟩
    rw [← hQ]
    have HQ := Lib.hid hQ
    clear hQ
    unfold UintPost er3 at HP
    rw [if_pos rfl] at HP
    by_cases hr : 9223372036854775808 ≤ u
    · have hz : piOut false u 0 = (9223372036854775807, 1) := by unfold piOut; rw [if_neg (by decide), if_neg (by decide), if_pos hr]
      have HZ := Lib.hid hz
      have b1 : decide (9223372036854775808 ≤ u) = true := by simpa using hr
      clear hz
      go_enter Tryz.func186, Tryz.ntmps186
      go_wp2_with (go_at_call 189; refine (HP.out _).mono ?_; rintro r w1 ⟨rfl, hb⟩; have HB := Lib.hid hb; clear hb)
      all_goals rw [HQ.out, HZ.out]
      all_goals exact ⟨rfl, HB.out⟩
    · have hz : piOut false u 0 = (u, 0) := by unfold piOut; rw [if_neg (by decide), if_neg (by decide), if_neg hr]
      have HZ := Lib.hid hz
      have b1 : decide (9223372036854775808 ≤ u) = false := by simpa using hr
      clear hz
      go_enter Tryz.func186, Tryz.ntmps186
      go_wp2_with (go_at_call 189; refine (HP.out _).mono ?_; rintro r w1 ⟨rfl, hb⟩; have HB := Lib.hid hb; clear hb)
      all_goals rw [HQ.out, HZ.out]
      all_goals exact ⟨rfl, HB.out⟩
  · obtain ⟨Q, hQ⟩ : ∃ Q, Q = IntPost w (piOut false u 1).1 (piOut false u 1).2 := ⟨_, rfl⟩
    rw [← hQ]
    have HQ := Lib.hid hQ
    clear hQ
    unfold UintPost er3 at HP
    rw [if_neg (by decide)] at HP
    have hnr := fun w => neq_rng w
    by_cases hr : 9223372036854775808 ≤ u
    · have hz : piOut false u 1 = (9223372036854775807, 1) := by unfold piOut; rw [if_neg (by decide), if_neg (by decide), if_pos hr]
      have HZ := Lib.hid hz
      have b1 : decide (9223372036854775808 ≤ u) = true := by simpa using hr
      clear hz
      go_enter Tryz.func186, Tryz.ntmps186
      go_wp2_with (go_at_call 189; refine (HP.out _).mono ?_; rintro r w1 ⟨rfl, hb⟩; have HB := Lib.hid hb; clear hb)
      all_goals rw [HQ.out, HZ.out]
      all_goals exact ⟨rfl, HB.out⟩
    · have hz : piOut false u 1 = (u, 0) := by unfold piOut; rw [if_neg (by decide), if_neg (by decide), if_neg hr]
      have HZ := Lib.hid hz
      have b1 : decide (9223372036854775808 ≤ u) = false := by simpa using hr
      clear hz
      go_enter Tryz.func186, Tryz.ntmps186
      go_wp2_with (go_at_call 189; refine (HP.out _).mono ?_; rintro r w1 ⟨rfl, hb⟩; have HB := Lib.hid hb; clear hb)
      all_goals rw [HQ.out, HZ.out]
      all_goals exact ⟨rfl, HB.out⟩
  · obtain ⟨Q, hQ⟩ : ∃ Q, Q = IntPost w (piOut false u 2).1 (piOut false u 2).2 := ⟨_, rfl⟩
    rw [← hQ]
    have HQ := Lib.hid hQ
    clear hQ
    unfold UintPost er3 at HP
    rw [if_neg (by decide)] at HP
    have hnr := fun w => neq_syn w
    go_enter Tryz.func186, Tryz.ntmps186
    go_wp2_with (go_at_call 189; refine (HP.out _).mono ?_; rintro r w1 ⟨rfl, hb⟩; have HB := Lib.hid hb; clear hb)
    all_goals rw [HQ.out]
    all_goals exact ⟨rfl, HB.out⟩
theorem pi_empty (s : ByteArray) (h0 : s.size = 0) (w : World) : Calls Tryz.prog 186 #[.string s, .int .i64 0, .int .i64 0] w (IntPost w 0 2) := by
  have he : s = ByteArray.empty := by
    obtain ⟨⟨l⟩⟩ := s
    have : l = [] := List.eq_nil_of_length_eq_zero h0
    rw [this]
    rfl
  subst he
  go_enter Tryz.func186, Tryz.ntmps186
  go_wp2_with fail
  go_ret2
  exact ⟨rfl, Below.refl _ _⟩
/-- internal/strconv.ParseInt at base 0: total; its answers hang on the text alone. -/
theorem parseIntIn_any (s : ByteArray) (hs : (s.size : Int) ≤ 1000000) : ∃ (v : Int) (k : Nat), -9223372036854775808 ≤ v ∧ v ≤ 9223372036854775807 ∧ k ≤ 2 ∧ ∀ w, Calls Tryz.prog 186 #[.string s, .int .i64 0, .int .i64 0] w (IntPost w v k) := by
  by_cases h0 : s.size = 0
  · exact ⟨0, 2, by omega, by omega, by omega, fun w => pi_empty s h0 w⟩
  · have h1 : 0 < s.size := by omega
    by_cases h43 : byt s 0 = 43
    · obtain ⟨u, k, hu0, hu1, hk, hP⟩ := parseUintIn_any (s.extract 1 s.size) (by rw [ByteArray.size_extract]; omega)
      have hin := piOut_in false u k hu0 hk
      exact ⟨_, _, hin.1, hin.2.1, hin.2.2, fun w => pi_plus s hs h1 h43 u k hu0 hu1 hk hP w⟩
    · by_cases h45 : byt s 0 = 45
      · obtain ⟨u, k, hu0, hu1, hk, hP⟩ := parseUintIn_any (s.extract 1 s.size) (by rw [ByteArray.size_extract]; omega)
        have hin := piOut_in true u k hu0 hk
        exact ⟨_, _, hin.1, hin.2.1, hin.2.2, fun w => pi_minus s hs h1 h45 u k hu0 hu1 hk hP w⟩
      · obtain ⟨u, k, hu0, hu1, hk, hP⟩ := parseUintIn_any s hs
        have hin := piOut_in false u k hu0 hk
        exact ⟨_, _, hin.1, hin.2.1, hin.2.2, fun w => pi_none s hs h1 h43 h45 u k hu0 hu1 hk hP w⟩
theorem spi_run (s : ByteArray) (hs : s.size ≤ 1000000) (v : Int) (k : Nat) (hk : k ≤ 2) (h : ∀ w, Calls Tryz.prog 186 #[.string s, .int .i64 0, .int .i64 0] w (IntPost w v k)) (w : World) (hg : Good w) :
    Calls Tryz.prog 155 #[.string s, .int .i64 0, .int .i64 0] w (NumPost w (.int .i64 v) (decide (0 < k))) := by
  have H := Lib.hid h
  have HG := Lib.hid hg
  clear h hg
  obtain ⟨Q, hQ⟩ : ∃ Q, Q = NumPost w (.int .i64 v) (decide (0 < k)) := ⟨_, rfl⟩
  rw [← hQ]
  have HQ := Lib.hid hQ
  clear hQ
  unfold IntPost at H
  rcases Nat.eq_zero_or_pos k with hk0 | hk0
  · subst hk0
    unfold er3 at H
    rw [if_pos rfl] at H
    go_enter Tryz.func155, Tryz.ntmps155
    go_wp2_with (go_at_call 186; refine (H.out _).mono ?_; rintro r w1 ⟨rfl, hb⟩)
    rw [HQ.out]
    exact ⟨_, rfl, rfl, hb⟩
  · have hk12 : k = 1 ∨ k = 2 := by omega
    have hkb : decide (0 < k) = true := by simpa using hk0
    rw [hkb] at HQ
    have HK := Lib.hid hk12
    unfold er3 at H
    rw [if_neg (by omega)] at H
    clear hkb hk12
    go_enter Tryz.func155, Tryz.ntmps155
    go_wp2_with (first | (go_at_call 186; refine (H.out _).mono ?_; rintro r w1 ⟨rfl, hb⟩; have HB := Lib.hid hb; clear hb) | (go_at_call 136; refine (toErr _ _ _ _ k HK.out (by omega) _ (HG.out.on HB.out)).mono ?_; rintro r w2 ⟨N, rfl, hb2⟩; have HB2 := Lib.hid (belowOn HB.out hb2); clear hb2))
    rw [HQ.out]
    exact ⟨_, rfl, ⟨N, rfl⟩, HB2.out⟩
theorem spu_run (s : ByteArray) (hs : s.size ≤ 1000000) (v : Int) (k : Nat) (hk : k ≤ 2) (h : ∀ w, Calls Tryz.prog 189 #[.string s, .int .i64 0, .int .i64 0] w (UintPost w v k)) (w : World) (hg : Good w) :
    Calls Tryz.prog 158 #[.string s, .int .i64 0, .int .i64 0] w (NumPost w (.int .u64 v) (decide (0 < k))) := by
  have H := Lib.hid h
  have HG := Lib.hid hg
  clear h hg
  obtain ⟨Q, hQ⟩ : ∃ Q, Q = NumPost w (.int .u64 v) (decide (0 < k)) := ⟨_, rfl⟩
  rw [← hQ]
  have HQ := Lib.hid hQ
  clear hQ
  unfold UintPost at H
  rcases Nat.eq_zero_or_pos k with hk0 | hk0
  · subst hk0
    unfold er3 at H
    rw [if_pos rfl] at H
    go_enter Tryz.func158, Tryz.ntmps158
    go_wp2_with (go_at_call 189; refine (H.out _).mono ?_; rintro r w1 ⟨rfl, hb⟩)
    rw [HQ.out]
    exact ⟨_, rfl, rfl, hb⟩
  · have hk12 : k = 1 ∨ k = 2 := by omega
    have hkb : decide (0 < k) = true := by simpa using hk0
    rw [hkb] at HQ
    have HK := Lib.hid hk12
    unfold er3 at H
    rw [if_neg (by omega)] at H
    clear hkb hk12
    go_enter Tryz.func158, Tryz.ntmps158
    go_wp2_with (first | (go_at_call 189; refine (H.out _).mono ?_; rintro r w1 ⟨rfl, hb⟩; have HB := Lib.hid hb; clear hb) | (go_at_call 136; refine (toErr _ _ _ _ k HK.out (by omega) _ (HG.out.on HB.out)).mono ?_; rintro r w2 ⟨N, rfl, hb2⟩; have HB2 := Lib.hid (belowOn HB.out hb2); clear hb2))
    rw [HQ.out]
    exact ⟨_, rfl, ⟨N, rfl⟩, HB2.out⟩
/-- strconv.ParseInt(s, 0, 0), strconv.ParseUint(s, 0, 0): total; the number, and whether there is an error, hang on the text alone. -/
theorem parseInt_any (s : ByteArray) (hs : s.size ≤ 1000000) : ∃ (v : Int) (bad : Bool), -9223372036854775808 ≤ v ∧ v ≤ 9223372036854775807 ∧ ∀ w, Good w → Calls Tryz.prog 155 #[.string s, .int .i64 0, .int .i64 0] w (NumPost w (.int .i64 v) bad) := by
  obtain ⟨v, k, h0, h1, hk, h⟩ := parseIntIn_any s (by omega)
  exact ⟨v, _, h0, h1, fun w hg => spi_run s hs v k hk h w hg⟩
theorem parseUint_any (s : ByteArray) (hs : s.size ≤ 1000000) : ∃ (v : Int) (bad : Bool), 0 ≤ v ∧ v < 18446744073709551616 ∧ ∀ w, Good w → Calls Tryz.prog 158 #[.string s, .int .i64 0, .int .i64 0] w (NumPost w (.int .u64 v) bad) := by
  obtain ⟨v, k, h0, h1, hk, h⟩ := parseUintIn_any s (by omega)
  exact ⟨v, _, h0, h1, fun w hg => spu_run s hs v k hk h w hg⟩
end Go.Proofs.YtnggkkdcddpjlaaGreatDoor
