/- internal/strconv.atof64exact and atof32exact: total, and what they answer is told. -/
import Derived.Test.YtnggkkdcddpjlaaGreatDoorZ23
import Derived.Test.YtnggkkdcddpjlaaGreatDoorZ15
namespace Go.Proofs.YtnggkkdcddpjlaaGreatDoor
open Go.RowKit
set_option maxRecDepth 100000
set_option linter.unusedVariables false
set_option linter.unusedSimpArgs false
/-- The table of powers of 32 bits, in the world. -/
structure FPow32 (tab : Nat → Nat) (w : World) : Prop where
  tab : ∃ g o, 11 < w.heap.size ∧ g < w.heap.size ∧ w.cell? ⟨11, 0, none⟩ = some (.slice (some ⟨g, o, none⟩) 11 11) ∧ ∀ i, i < 11 → w.cell? ⟨g, o + i, none⟩ = some (.float .f32 (tab i))
section
variable {κ : FloatKind} {tab : Nat → Nat} {T U : Int} {c c' x : Nat} {e : Int} {r : Nat}
theorem ex_a (h : e = 0) : ExTold κ tab T U c c' x e x := Or.inl ⟨h, rfl⟩
theorem ex_b {k : Nat} (h0 : 0 < k) (h1 : (k : Int) ≤ T) (hr : κ.format.mul x (tab k) = some r) : ExTold κ tab T U c c' x k r := Or.inr (Or.inl ⟨k, rfl, h0, h1, hr⟩)
theorem ex_c {k : Nat} (he : e = -(k : Int)) (h0 : 0 < k) (h1 : (k : Int) ≤ T) (hr : κ.format.div x (tab k) = some r) : ExTold κ tab T U c c' x e r := Or.inr (Or.inr (Or.inl ⟨k, he, h0, h1, hr⟩))
theorem ex_d {k r1 : Nat} (he : e = T + k) (h0 : 0 < k) (h1 : e ≤ U) (hr1 : κ.format.mul x (tab k) = some r1) (c1 : (κ.format.order r1 c == some Ordering.gt) = false) (c2 : (κ.format.order r1 c' == some Ordering.lt) = false) (hr : κ.format.mul r1 (tab T.toNat) = some r) : ExTold κ tab T U c c' x e r := Or.inr (Or.inr (Or.inr ⟨k, r1, he, h0, h1, hr1, c1, c2, hr⟩))
end
set_option maxHeartbeats 1000000 in
theorem ex64_zero_false (tab : Nat → Nat) (m : Int) (hm0 : 0 ≤ m) (hm1 : m < 18446744073709551616) (hdv : (m / 4503599627370496 == 0) = true)  (w : World) (h : FPow tab w) :
    Calls Tryz.prog 250 #[.int .u64 m, .int .i64 (0), .bool false] w fun a w' => a = .returned (.tuple #[.float .f64 (floatOfInt .f64 m), .bool true]) ∧ w' = w := by
  have hmb := h.mb
  obtain ⟨g, o, hg0, hg1, hg2, hg3⟩ := h.tab
  clear h
  go_enter Tryz.func250, Tryz.ntmps250
  go_wp2_with fail
  all_goals go_ret2
  all_goals exact ⟨rfl, rfl⟩
set_option maxHeartbeats 1000000 in
theorem ex64_pos_false (tab : Nat → Nat) (m : Int) (hm0 : 0 ≤ m) (hm1 : m < 18446744073709551616) (hdv : (m / 4503599627370496 == 0) = true) (k : Nat) (q1 : 0 < (k : Int)) (q2 : (k : Int) ≤ 22) (r : Nat) (hr : FloatKind.f64.format.mul (floatOfInt .f64 m) (tab k) = some r) (c1 : ((FloatKind.f64.format.order (floatOfInt .f64 m) 4831355200913801216) == some Ordering.gt) = false) (c2 : ((FloatKind.f64.format.order (floatOfInt .f64 m) 14054727237768577024) == some Ordering.lt) = false) (w : World) (h : FPow tab w) :
    Calls Tryz.prog 250 #[.int .u64 m, .int .i64 ((k : Int)), .bool false] w fun a w' => a = .returned (.tuple #[.float .f64 (r), .bool true]) ∧ w' = w := by
  have hk9 : 0 < k := by omega
  have hmb := h.mb
  obtain ⟨g, o, hg0, hg1, hg2, hg3⟩ := h.tab
  have hk := hg3 k (by omega)
  clear h
  go_enter Tryz.func250, Tryz.ntmps250
  go_wp2_with fail
  all_goals go_ret2
  all_goals exact ⟨rfl, rfl⟩
set_option maxHeartbeats 1000000 in
theorem ex64_pos1_false (tab : Nat → Nat) (m : Int) (hm0 : 0 ≤ m) (hm1 : m < 18446744073709551616) (hdv : (m / 4503599627370496 == 0) = true) (k : Nat) (q1 : 0 < (k : Int)) (q2 : (k : Int) ≤ 22) (r : Nat) (hr : FloatKind.f64.format.mul (floatOfInt .f64 m) (tab k) = some r) (c1 : ((FloatKind.f64.format.order (floatOfInt .f64 m) 4831355200913801216) == some Ordering.gt) = true) (w : World) (h : FPow tab w) :
    Calls Tryz.prog 250 #[.int .u64 m, .int .i64 ((k : Int)), .bool false] w fun a w' => a = .returned (.tuple #[.float .f64 (floatOfInt .f64 m), .bool false]) ∧ w' = w := by
  have hk9 : 0 < k := by omega
  have hmb := h.mb
  obtain ⟨g, o, hg0, hg1, hg2, hg3⟩ := h.tab
  have hk := hg3 k (by omega)
  clear h
  go_enter Tryz.func250, Tryz.ntmps250
  go_wp2_with fail
  all_goals go_ret2
  all_goals exact ⟨rfl, rfl⟩
set_option maxHeartbeats 1000000 in
theorem ex64_pos2_false (tab : Nat → Nat) (m : Int) (hm0 : 0 ≤ m) (hm1 : m < 18446744073709551616) (hdv : (m / 4503599627370496 == 0) = true) (k : Nat) (q1 : 0 < (k : Int)) (q2 : (k : Int) ≤ 22) (r : Nat) (hr : FloatKind.f64.format.mul (floatOfInt .f64 m) (tab k) = some r) (c1 : ((FloatKind.f64.format.order (floatOfInt .f64 m) 4831355200913801216) == some Ordering.gt) = false) (c2 : ((FloatKind.f64.format.order (floatOfInt .f64 m) 14054727237768577024) == some Ordering.lt) = true) (w : World) (h : FPow tab w) :
    Calls Tryz.prog 250 #[.int .u64 m, .int .i64 ((k : Int)), .bool false] w fun a w' => a = .returned (.tuple #[.float .f64 (floatOfInt .f64 m), .bool false]) ∧ w' = w := by
  have hk9 : 0 < k := by omega
  have hmb := h.mb
  obtain ⟨g, o, hg0, hg1, hg2, hg3⟩ := h.tab
  have hk := hg3 k (by omega)
  clear h
  go_enter Tryz.func250, Tryz.ntmps250
  go_wp2_with fail
  all_goals go_ret2
  all_goals exact ⟨rfl, rfl⟩
set_option maxHeartbeats 1000000 in
theorem ex64_neg_false (tab : Nat → Nat) (m : Int) (hm0 : 0 ≤ m) (hm1 : m < 18446744073709551616) (hdv : (m / 4503599627370496 == 0) = true) (e : Int) (k : Nat) (hk0 : -e = k) (q1 : -22 ≤ e) (q2 : e < 0) (r : Nat) (hr : FloatKind.f64.format.div (floatOfInt .f64 m) (tab k) = some r) (w : World) (h : FPow tab w) :
    Calls Tryz.prog 250 #[.int .u64 m, .int .i64 (e), .bool false] w fun a w' => a = .returned (.tuple #[.float .f64 (r), .bool true]) ∧ w' = w := by
  obtain rfl : e = -(k : Int) := by omega
  have hnn : -(-(k : Int)) = k := by omega
  have hk9 : 0 < k := by omega
  have hmb := h.mb
  obtain ⟨g, o, hg0, hg1, hg2, hg3⟩ := h.tab
  have hk := hg3 k (by omega)
  clear h
  go_enter Tryz.func250, Tryz.ntmps250
  go_wp2_with fail
  all_goals go_ret2
  all_goals exact ⟨rfl, rfl⟩
set_option maxHeartbeats 1000000 in
theorem ex64_big_false (tab : Nat → Nat) (m : Int) (hm0 : 0 ≤ m) (hm1 : m < 18446744073709551616) (hdv : (m / 4503599627370496 == 0) = true) (e : Int) (q1 : 22 < e) (q2 : e ≤ 37) (k : Nat) (hnn : e - 22 = (k : Int)) (r : Nat) (hr : FloatKind.f64.format.mul (floatOfInt .f64 m) (tab k) = some r) (c1 : ((FloatKind.f64.format.order (r) 4831355200913801216) == some Ordering.gt) = false) (c2 : ((FloatKind.f64.format.order (r) 14054727237768577024) == some Ordering.lt) = false) (r2 : Nat) (hr2 : FloatKind.f64.format.mul r (tab 22) = some r2) (w : World) (h : FPow tab w) :
    Calls Tryz.prog 250 #[.int .u64 m, .int .i64 (e), .bool false] w fun a w' => a = .returned (.tuple #[.float .f64 (r2), .bool true]) ∧ w' = w := by
  have he9 : 0 < e := by omega
  have hmb := h.mb
  obtain ⟨g, o, hg0, hg1, hg2, hg3⟩ := h.tab
  have hk := hg3 k (by omega)
  have hk2 := hg3 22 (by omega)
  clear h
  go_enter Tryz.func250, Tryz.ntmps250
  go_wp2_with fail
  all_goals go_ret2
  all_goals exact ⟨rfl, rfl⟩
set_option maxHeartbeats 1000000 in
theorem ex64_big1_false (tab : Nat → Nat) (m : Int) (hm0 : 0 ≤ m) (hm1 : m < 18446744073709551616) (hdv : (m / 4503599627370496 == 0) = true) (e : Int) (q1 : 22 < e) (q2 : e ≤ 37) (k : Nat) (hnn : e - 22 = (k : Int)) (r : Nat) (hr : FloatKind.f64.format.mul (floatOfInt .f64 m) (tab k) = some r) (c1 : ((FloatKind.f64.format.order (r) 4831355200913801216) == some Ordering.gt) = true) (w : World) (h : FPow tab w) :
    Calls Tryz.prog 250 #[.int .u64 m, .int .i64 (e), .bool false] w fun a w' => a = .returned (.tuple #[.float .f64 (r), .bool false]) ∧ w' = w := by
  have he9 : 0 < e := by omega
  have hmb := h.mb
  obtain ⟨g, o, hg0, hg1, hg2, hg3⟩ := h.tab
  have hk := hg3 k (by omega)
  have hk2 := hg3 22 (by omega)
  clear h
  go_enter Tryz.func250, Tryz.ntmps250
  go_wp2_with fail
  all_goals go_ret2
  all_goals exact ⟨rfl, rfl⟩
set_option maxHeartbeats 1000000 in
theorem ex64_big2_false (tab : Nat → Nat) (m : Int) (hm0 : 0 ≤ m) (hm1 : m < 18446744073709551616) (hdv : (m / 4503599627370496 == 0) = true) (e : Int) (q1 : 22 < e) (q2 : e ≤ 37) (k : Nat) (hnn : e - 22 = (k : Int)) (r : Nat) (hr : FloatKind.f64.format.mul (floatOfInt .f64 m) (tab k) = some r) (c1 : ((FloatKind.f64.format.order (r) 4831355200913801216) == some Ordering.gt) = false) (c2 : ((FloatKind.f64.format.order (r) 14054727237768577024) == some Ordering.lt) = true) (w : World) (h : FPow tab w) :
    Calls Tryz.prog 250 #[.int .u64 m, .int .i64 (e), .bool false] w fun a w' => a = .returned (.tuple #[.float .f64 (r), .bool false]) ∧ w' = w := by
  have he9 : 0 < e := by omega
  have hmb := h.mb
  obtain ⟨g, o, hg0, hg1, hg2, hg3⟩ := h.tab
  have hk := hg3 k (by omega)
  have hk2 := hg3 22 (by omega)
  clear h
  go_enter Tryz.func250, Tryz.ntmps250
  go_wp2_with fail
  all_goals go_ret2
  all_goals exact ⟨rfl, rfl⟩
set_option maxHeartbeats 1000000 in
theorem ex64_far1_false (tab : Nat → Nat) (m : Int) (hm0 : 0 ≤ m) (hm1 : m < 18446744073709551616) (hdv : (m / 4503599627370496 == 0) = true) (e : Int) (p5 : 37 < e) (w : World) (h : FPow tab w) :
    Calls Tryz.prog 250 #[.int .u64 m, .int .i64 (e), .bool false] w fun a w' => a = .returned (.tuple #[.float .f64 (floatOfInt .f64 m), .bool false]) ∧ w' = w := by
  have he9 : 0 < e := by omega
  have hmb := h.mb
  obtain ⟨g, o, hg0, hg1, hg2, hg3⟩ := h.tab
  clear h
  go_enter Tryz.func250, Tryz.ntmps250
  go_wp2_with fail
  all_goals go_ret2
  all_goals exact ⟨rfl, rfl⟩
set_option maxHeartbeats 1000000 in
theorem ex64_far2_false (tab : Nat → Nat) (m : Int) (hm0 : 0 ≤ m) (hm1 : m < 18446744073709551616) (hdv : (m / 4503599627370496 == 0) = true) (e : Int) (p5 : e < -22) (w : World) (h : FPow tab w) :
    Calls Tryz.prog 250 #[.int .u64 m, .int .i64 (e), .bool false] w fun a w' => a = .returned (.tuple #[.float .f64 (floatOfInt .f64 m), .bool false]) ∧ w' = w := by
  have he9 : e < 0 := by omega
  have hmb := h.mb
  obtain ⟨g, o, hg0, hg1, hg2, hg3⟩ := h.tab
  clear h
  go_enter Tryz.func250, Tryz.ntmps250
  go_wp2_with fail
  all_goals go_ret2
  all_goals exact ⟨rfl, rfl⟩
theorem told64_false (tab : Nat → Nat) (m e : Int) (hm0 : 0 ≤ m) (hm1 : m < 18446744073709551616) (hdv : (m / 4503599627370496 == 0) = true) (c c' : Nat) (hc : c = 4831355200913801216) (hc' : c' = 14054727237768577024)
    (hM : ∀ k, k < 23 → ∃ r, FloatKind.f64.format.mul (floatOfInt .f64 m) (tab k) = some r) (hD : ∀ k, k < 23 → ∃ r, FloatKind.f64.format.div (floatOfInt .f64 m) (tab k) = some r)
    (hM2 : ∀ k r, k < 23 → FloatKind.f64.format.mul (floatOfInt .f64 m) (tab k) = some r → ∃ r2, FloatKind.f64.format.mul r (tab 22) = some r2) :
    ∃ (f : Nat) (ok : Bool), (ok = true → ExTold .f64 tab 22 37 c c' (floatOfInt .f64 m) e f) ∧ ∀ w, FPow tab w → Calls Tryz.prog 250 #[.int .u64 m, .int .i64 e, .bool false] w fun r w' => r = .returned (.tuple #[.float .f64 f, .bool ok]) ∧ w' = w := by
  have no : ∀ (P : Prop), false = true → P := fun P h => by cases h
  by_cases z : e = 0
  · subst z
    exact ⟨_, true, fun _ => ex_a rfl, fun w h => ex64_zero_false tab m hm0 hm1 hdv w h⟩
  · by_cases p1 : 0 < e ∧ e ≤ 22
    · obtain ⟨q1, q2⟩ := p1
      obtain ⟨k, rfl⟩ := nat_of' e (by omega)
      obtain ⟨r, hr⟩ := hM k (by omega)
      cases c1 : ((FloatKind.f64.format.order (floatOfInt .f64 m) c) == some Ordering.gt) with
      | true => exact ⟨_, false, no _, fun w h => ex64_pos1_false tab m hm0 hm1 hdv k q1 q2 r hr (by rw [← hc]; exact c1) w h⟩
      | false =>
        cases c2 : ((FloatKind.f64.format.order (floatOfInt .f64 m) c') == some Ordering.lt) with
        | true => exact ⟨_, false, no _, fun w h => ex64_pos2_false tab m hm0 hm1 hdv k q1 q2 r hr (by rw [← hc]; exact c1) (by rw [← hc']; exact c2) w h⟩
        | false => exact ⟨_, true, fun _ => ex_b (by omega) q2 hr, fun w h => ex64_pos_false tab m hm0 hm1 hdv k q1 q2 r hr (by rw [← hc]; exact c1) (by rw [← hc']; exact c2) w h⟩
    · by_cases p2 : -22 ≤ e ∧ e < 0
      · obtain ⟨q1, q2⟩ := p2
        obtain ⟨k, hk0⟩ := nat_of' (-e) (by omega)
        obtain ⟨r, hr⟩ := hD k (by omega)
        exact ⟨_, true, fun _ => ex_c (by omega) (by omega) (by omega) hr, fun w h => ex64_neg_false tab m hm0 hm1 hdv e k hk0 q1 q2 r hr w h⟩
      · by_cases p3 : 22 < e ∧ e ≤ 37
        · obtain ⟨q1, q2⟩ := p3
          obtain ⟨k, hk0⟩ := nat_of' (e - 22) (by omega)
          obtain ⟨r, hr⟩ := hM k (by omega)
          cases c1 : ((FloatKind.f64.format.order r c) == some Ordering.gt) with
          | true => exact ⟨_, false, no _, fun w h => ex64_big1_false tab m hm0 hm1 hdv e q1 q2 k hk0 r hr (by rw [← hc]; exact c1) w h⟩
          | false =>
            cases c2 : ((FloatKind.f64.format.order r c') == some Ordering.lt) with
            | true => exact ⟨_, false, no _, fun w h => ex64_big2_false tab m hm0 hm1 hdv e q1 q2 k hk0 r hr (by rw [← hc]; exact c1) (by rw [← hc']; exact c2) w h⟩
            | false =>
              obtain ⟨r2, hr2⟩ := hM2 k r (by omega) hr
              exact ⟨_, true, fun _ => ex_d (by omega) (by omega) q2 hr c1 c2 (by exact hr2), fun w h => ex64_big_false tab m hm0 hm1 hdv e q1 q2 k hk0 r hr (by rw [← hc]; exact c1) (by rw [← hc']; exact c2) r2 hr2 w h⟩
        · by_cases p4 : 0 < e
          · exact ⟨_, false, no _, fun w h => ex64_far1_false tab m hm0 hm1 hdv e (by omega) w h⟩
          · exact ⟨_, false, no _, fun w h => ex64_far2_false tab m hm0 hm1 hdv e (by omega) w h⟩
set_option maxHeartbeats 1000000 in
theorem ex64_zero_true (tab : Nat → Nat) (m : Int) (hm0 : 0 ≤ m) (hm1 : m < 18446744073709551616) (hdv : (m / 4503599627370496 == 0) = true)  (w : World) (h : FPow tab w) :
    Calls Tryz.prog 250 #[.int .u64 m, .int .i64 (0), .bool true] w fun a w' => a = .returned (.tuple #[.float .f64 (Op.negFloat .f64 (floatOfInt .f64 m)), .bool true]) ∧ w' = w := by
  have hmb := h.mb
  obtain ⟨g, o, hg0, hg1, hg2, hg3⟩ := h.tab
  clear h
  go_enter Tryz.func250, Tryz.ntmps250
  go_wp2_with fail
  all_goals go_ret2
  all_goals exact ⟨rfl, rfl⟩
set_option maxHeartbeats 1000000 in
theorem ex64_pos_true (tab : Nat → Nat) (m : Int) (hm0 : 0 ≤ m) (hm1 : m < 18446744073709551616) (hdv : (m / 4503599627370496 == 0) = true) (k : Nat) (q1 : 0 < (k : Int)) (q2 : (k : Int) ≤ 22) (r : Nat) (hr : FloatKind.f64.format.mul (Op.negFloat .f64 (floatOfInt .f64 m)) (tab k) = some r) (c1 : ((FloatKind.f64.format.order (Op.negFloat .f64 (floatOfInt .f64 m)) 4831355200913801216) == some Ordering.gt) = false) (c2 : ((FloatKind.f64.format.order (Op.negFloat .f64 (floatOfInt .f64 m)) 14054727237768577024) == some Ordering.lt) = false) (w : World) (h : FPow tab w) :
    Calls Tryz.prog 250 #[.int .u64 m, .int .i64 ((k : Int)), .bool true] w fun a w' => a = .returned (.tuple #[.float .f64 (r), .bool true]) ∧ w' = w := by
  have hk9 : 0 < k := by omega
  have hmb := h.mb
  obtain ⟨g, o, hg0, hg1, hg2, hg3⟩ := h.tab
  have hk := hg3 k (by omega)
  clear h
  go_enter Tryz.func250, Tryz.ntmps250
  go_wp2_with fail
  all_goals go_ret2
  all_goals exact ⟨rfl, rfl⟩
set_option maxHeartbeats 1000000 in
theorem ex64_pos1_true (tab : Nat → Nat) (m : Int) (hm0 : 0 ≤ m) (hm1 : m < 18446744073709551616) (hdv : (m / 4503599627370496 == 0) = true) (k : Nat) (q1 : 0 < (k : Int)) (q2 : (k : Int) ≤ 22) (r : Nat) (hr : FloatKind.f64.format.mul (Op.negFloat .f64 (floatOfInt .f64 m)) (tab k) = some r) (c1 : ((FloatKind.f64.format.order (Op.negFloat .f64 (floatOfInt .f64 m)) 4831355200913801216) == some Ordering.gt) = true) (w : World) (h : FPow tab w) :
    Calls Tryz.prog 250 #[.int .u64 m, .int .i64 ((k : Int)), .bool true] w fun a w' => a = .returned (.tuple #[.float .f64 (Op.negFloat .f64 (floatOfInt .f64 m)), .bool false]) ∧ w' = w := by
  have hk9 : 0 < k := by omega
  have hmb := h.mb
  obtain ⟨g, o, hg0, hg1, hg2, hg3⟩ := h.tab
  have hk := hg3 k (by omega)
  clear h
  go_enter Tryz.func250, Tryz.ntmps250
  go_wp2_with fail
  all_goals go_ret2
  all_goals exact ⟨rfl, rfl⟩
set_option maxHeartbeats 1000000 in
theorem ex64_pos2_true (tab : Nat → Nat) (m : Int) (hm0 : 0 ≤ m) (hm1 : m < 18446744073709551616) (hdv : (m / 4503599627370496 == 0) = true) (k : Nat) (q1 : 0 < (k : Int)) (q2 : (k : Int) ≤ 22) (r : Nat) (hr : FloatKind.f64.format.mul (Op.negFloat .f64 (floatOfInt .f64 m)) (tab k) = some r) (c1 : ((FloatKind.f64.format.order (Op.negFloat .f64 (floatOfInt .f64 m)) 4831355200913801216) == some Ordering.gt) = false) (c2 : ((FloatKind.f64.format.order (Op.negFloat .f64 (floatOfInt .f64 m)) 14054727237768577024) == some Ordering.lt) = true) (w : World) (h : FPow tab w) :
    Calls Tryz.prog 250 #[.int .u64 m, .int .i64 ((k : Int)), .bool true] w fun a w' => a = .returned (.tuple #[.float .f64 (Op.negFloat .f64 (floatOfInt .f64 m)), .bool false]) ∧ w' = w := by
  have hk9 : 0 < k := by omega
  have hmb := h.mb
  obtain ⟨g, o, hg0, hg1, hg2, hg3⟩ := h.tab
  have hk := hg3 k (by omega)
  clear h
  go_enter Tryz.func250, Tryz.ntmps250
  go_wp2_with fail
  all_goals go_ret2
  all_goals exact ⟨rfl, rfl⟩
set_option maxHeartbeats 1000000 in
theorem ex64_neg_true (tab : Nat → Nat) (m : Int) (hm0 : 0 ≤ m) (hm1 : m < 18446744073709551616) (hdv : (m / 4503599627370496 == 0) = true) (e : Int) (k : Nat) (hk0 : -e = k) (q1 : -22 ≤ e) (q2 : e < 0) (r : Nat) (hr : FloatKind.f64.format.div (Op.negFloat .f64 (floatOfInt .f64 m)) (tab k) = some r) (w : World) (h : FPow tab w) :
    Calls Tryz.prog 250 #[.int .u64 m, .int .i64 (e), .bool true] w fun a w' => a = .returned (.tuple #[.float .f64 (r), .bool true]) ∧ w' = w := by
  obtain rfl : e = -(k : Int) := by omega
  have hnn : -(-(k : Int)) = k := by omega
  have hk9 : 0 < k := by omega
  have hmb := h.mb
  obtain ⟨g, o, hg0, hg1, hg2, hg3⟩ := h.tab
  have hk := hg3 k (by omega)
  clear h
  go_enter Tryz.func250, Tryz.ntmps250
  go_wp2_with fail
  all_goals go_ret2
  all_goals exact ⟨rfl, rfl⟩
set_option maxHeartbeats 1000000 in
theorem ex64_big_true (tab : Nat → Nat) (m : Int) (hm0 : 0 ≤ m) (hm1 : m < 18446744073709551616) (hdv : (m / 4503599627370496 == 0) = true) (e : Int) (q1 : 22 < e) (q2 : e ≤ 37) (k : Nat) (hnn : e - 22 = (k : Int)) (r : Nat) (hr : FloatKind.f64.format.mul (Op.negFloat .f64 (floatOfInt .f64 m)) (tab k) = some r) (c1 : ((FloatKind.f64.format.order (r) 4831355200913801216) == some Ordering.gt) = false) (c2 : ((FloatKind.f64.format.order (r) 14054727237768577024) == some Ordering.lt) = false) (r2 : Nat) (hr2 : FloatKind.f64.format.mul r (tab 22) = some r2) (w : World) (h : FPow tab w) :
    Calls Tryz.prog 250 #[.int .u64 m, .int .i64 (e), .bool true] w fun a w' => a = .returned (.tuple #[.float .f64 (r2), .bool true]) ∧ w' = w := by
  have he9 : 0 < e := by omega
  have hmb := h.mb
  obtain ⟨g, o, hg0, hg1, hg2, hg3⟩ := h.tab
  have hk := hg3 k (by omega)
  have hk2 := hg3 22 (by omega)
  clear h
  go_enter Tryz.func250, Tryz.ntmps250
  go_wp2_with fail
  all_goals go_ret2
  all_goals exact ⟨rfl, rfl⟩
set_option maxHeartbeats 1000000 in
theorem ex64_big1_true (tab : Nat → Nat) (m : Int) (hm0 : 0 ≤ m) (hm1 : m < 18446744073709551616) (hdv : (m / 4503599627370496 == 0) = true) (e : Int) (q1 : 22 < e) (q2 : e ≤ 37) (k : Nat) (hnn : e - 22 = (k : Int)) (r : Nat) (hr : FloatKind.f64.format.mul (Op.negFloat .f64 (floatOfInt .f64 m)) (tab k) = some r) (c1 : ((FloatKind.f64.format.order (r) 4831355200913801216) == some Ordering.gt) = true) (w : World) (h : FPow tab w) :
    Calls Tryz.prog 250 #[.int .u64 m, .int .i64 (e), .bool true] w fun a w' => a = .returned (.tuple #[.float .f64 (r), .bool false]) ∧ w' = w := by
  have he9 : 0 < e := by omega
  have hmb := h.mb
  obtain ⟨g, o, hg0, hg1, hg2, hg3⟩ := h.tab
  have hk := hg3 k (by omega)
  have hk2 := hg3 22 (by omega)
  clear h
  go_enter Tryz.func250, Tryz.ntmps250
  go_wp2_with fail
  all_goals go_ret2
  all_goals exact ⟨rfl, rfl⟩
set_option maxHeartbeats 1000000 in
theorem ex64_big2_true (tab : Nat → Nat) (m : Int) (hm0 : 0 ≤ m) (hm1 : m < 18446744073709551616) (hdv : (m / 4503599627370496 == 0) = true) (e : Int) (q1 : 22 < e) (q2 : e ≤ 37) (k : Nat) (hnn : e - 22 = (k : Int)) (r : Nat) (hr : FloatKind.f64.format.mul (Op.negFloat .f64 (floatOfInt .f64 m)) (tab k) = some r) (c1 : ((FloatKind.f64.format.order (r) 4831355200913801216) == some Ordering.gt) = false) (c2 : ((FloatKind.f64.format.order (r) 14054727237768577024) == some Ordering.lt) = true) (w : World) (h : FPow tab w) :
    Calls Tryz.prog 250 #[.int .u64 m, .int .i64 (e), .bool true] w fun a w' => a = .returned (.tuple #[.float .f64 (r), .bool false]) ∧ w' = w := by
  have he9 : 0 < e := by omega
  have hmb := h.mb
  obtain ⟨g, o, hg0, hg1, hg2, hg3⟩ := h.tab
  have hk := hg3 k (by omega)
  have hk2 := hg3 22 (by omega)
  clear h
  go_enter Tryz.func250, Tryz.ntmps250
  go_wp2_with fail
  all_goals go_ret2
  all_goals exact ⟨rfl, rfl⟩
set_option maxHeartbeats 1000000 in
theorem ex64_far1_true (tab : Nat → Nat) (m : Int) (hm0 : 0 ≤ m) (hm1 : m < 18446744073709551616) (hdv : (m / 4503599627370496 == 0) = true) (e : Int) (p5 : 37 < e) (w : World) (h : FPow tab w) :
    Calls Tryz.prog 250 #[.int .u64 m, .int .i64 (e), .bool true] w fun a w' => a = .returned (.tuple #[.float .f64 (Op.negFloat .f64 (floatOfInt .f64 m)), .bool false]) ∧ w' = w := by
  have he9 : 0 < e := by omega
  have hmb := h.mb
  obtain ⟨g, o, hg0, hg1, hg2, hg3⟩ := h.tab
  clear h
  go_enter Tryz.func250, Tryz.ntmps250
  go_wp2_with fail
  all_goals go_ret2
  all_goals exact ⟨rfl, rfl⟩
set_option maxHeartbeats 1000000 in
theorem ex64_far2_true (tab : Nat → Nat) (m : Int) (hm0 : 0 ≤ m) (hm1 : m < 18446744073709551616) (hdv : (m / 4503599627370496 == 0) = true) (e : Int) (p5 : e < -22) (w : World) (h : FPow tab w) :
    Calls Tryz.prog 250 #[.int .u64 m, .int .i64 (e), .bool true] w fun a w' => a = .returned (.tuple #[.float .f64 (Op.negFloat .f64 (floatOfInt .f64 m)), .bool false]) ∧ w' = w := by
  have he9 : e < 0 := by omega
  have hmb := h.mb
  obtain ⟨g, o, hg0, hg1, hg2, hg3⟩ := h.tab
  clear h
  go_enter Tryz.func250, Tryz.ntmps250
  go_wp2_with fail
  all_goals go_ret2
  all_goals exact ⟨rfl, rfl⟩
theorem told64_true (tab : Nat → Nat) (m e : Int) (hm0 : 0 ≤ m) (hm1 : m < 18446744073709551616) (hdv : (m / 4503599627370496 == 0) = true) (c c' : Nat) (hc : c = 4831355200913801216) (hc' : c' = 14054727237768577024)
    (hM : ∀ k, k < 23 → ∃ r, FloatKind.f64.format.mul (Op.negFloat .f64 (floatOfInt .f64 m)) (tab k) = some r) (hD : ∀ k, k < 23 → ∃ r, FloatKind.f64.format.div (Op.negFloat .f64 (floatOfInt .f64 m)) (tab k) = some r)
    (hM2 : ∀ k r, k < 23 → FloatKind.f64.format.mul (Op.negFloat .f64 (floatOfInt .f64 m)) (tab k) = some r → ∃ r2, FloatKind.f64.format.mul r (tab 22) = some r2) :
    ∃ (f : Nat) (ok : Bool), (ok = true → ExTold .f64 tab 22 37 c c' (Op.negFloat .f64 (floatOfInt .f64 m)) e f) ∧ ∀ w, FPow tab w → Calls Tryz.prog 250 #[.int .u64 m, .int .i64 e, .bool true] w fun r w' => r = .returned (.tuple #[.float .f64 f, .bool ok]) ∧ w' = w := by
  have no : ∀ (P : Prop), false = true → P := fun P h => by cases h
  by_cases z : e = 0
  · subst z
    exact ⟨_, true, fun _ => ex_a rfl, fun w h => ex64_zero_true tab m hm0 hm1 hdv w h⟩
  · by_cases p1 : 0 < e ∧ e ≤ 22
    · obtain ⟨q1, q2⟩ := p1
      obtain ⟨k, rfl⟩ := nat_of' e (by omega)
      obtain ⟨r, hr⟩ := hM k (by omega)
      cases c1 : ((FloatKind.f64.format.order (Op.negFloat .f64 (floatOfInt .f64 m)) c) == some Ordering.gt) with
      | true => exact ⟨_, false, no _, fun w h => ex64_pos1_true tab m hm0 hm1 hdv k q1 q2 r hr (by rw [← hc]; exact c1) w h⟩
      | false =>
        cases c2 : ((FloatKind.f64.format.order (Op.negFloat .f64 (floatOfInt .f64 m)) c') == some Ordering.lt) with
        | true => exact ⟨_, false, no _, fun w h => ex64_pos2_true tab m hm0 hm1 hdv k q1 q2 r hr (by rw [← hc]; exact c1) (by rw [← hc']; exact c2) w h⟩
        | false => exact ⟨_, true, fun _ => ex_b (by omega) q2 hr, fun w h => ex64_pos_true tab m hm0 hm1 hdv k q1 q2 r hr (by rw [← hc]; exact c1) (by rw [← hc']; exact c2) w h⟩
    · by_cases p2 : -22 ≤ e ∧ e < 0
      · obtain ⟨q1, q2⟩ := p2
        obtain ⟨k, hk0⟩ := nat_of' (-e) (by omega)
        obtain ⟨r, hr⟩ := hD k (by omega)
        exact ⟨_, true, fun _ => ex_c (by omega) (by omega) (by omega) hr, fun w h => ex64_neg_true tab m hm0 hm1 hdv e k hk0 q1 q2 r hr w h⟩
      · by_cases p3 : 22 < e ∧ e ≤ 37
        · obtain ⟨q1, q2⟩ := p3
          obtain ⟨k, hk0⟩ := nat_of' (e - 22) (by omega)
          obtain ⟨r, hr⟩ := hM k (by omega)
          cases c1 : ((FloatKind.f64.format.order r c) == some Ordering.gt) with
          | true => exact ⟨_, false, no _, fun w h => ex64_big1_true tab m hm0 hm1 hdv e q1 q2 k hk0 r hr (by rw [← hc]; exact c1) w h⟩
          | false =>
            cases c2 : ((FloatKind.f64.format.order r c') == some Ordering.lt) with
            | true => exact ⟨_, false, no _, fun w h => ex64_big2_true tab m hm0 hm1 hdv e q1 q2 k hk0 r hr (by rw [← hc]; exact c1) (by rw [← hc']; exact c2) w h⟩
            | false =>
              obtain ⟨r2, hr2⟩ := hM2 k r (by omega) hr
              exact ⟨_, true, fun _ => ex_d (by omega) (by omega) q2 hr c1 c2 (by exact hr2), fun w h => ex64_big_true tab m hm0 hm1 hdv e q1 q2 k hk0 r hr (by rw [← hc]; exact c1) (by rw [← hc']; exact c2) r2 hr2 w h⟩
        · by_cases p4 : 0 < e
          · exact ⟨_, false, no _, fun w h => ex64_far1_true tab m hm0 hm1 hdv e (by omega) w h⟩
          · exact ⟨_, false, no _, fun w h => ex64_far2_true tab m hm0 hm1 hdv e (by omega) w h⟩
/-- atof64exact: total, and what it answers is told. -/
theorem told64 (tabN : Nat → Nat) (hT : ∀ k, k < 23 → NotNought .f64 (tabN k)) (m e : Int) (ng : Bool) (hm0 : 0 ≤ m) (hm1 : m < 18446744073709551616) (hdv : (m / 4503599627370496 == 0) = true) (c c' : Nat) (hc : c = 4831355200913801216) (hc' : c' = 14054727237768577024) :
    ∃ (f : Nat) (ok : Bool), (ok = true → ExTold .f64 tabN 22 37 c c' (sgnInt .f64 ng m) e f) ∧ ∀ w, FPow tabN w → Calls Tryz.prog 250 #[.int .u64 m, .int .i64 e, .bool ng] w fun r w' => r = .returned (.tuple #[.float .f64 f, .bool ok]) ∧ w' = w := by
  have key : ∀ x, NoNan .f64 x → (∀ k, k < 23 → ∃ r, FloatKind.f64.format.mul x (tabN k) = some r) ∧ (∀ k, k < 23 → ∃ r, FloatKind.f64.format.div x (tabN k) = some r) ∧
      (∀ k r, k < 23 → FloatKind.f64.format.mul x (tabN k) = some r → ∃ r2, FloatKind.f64.format.mul r (tabN 22) = some r2) := fun x hx => by
    refine ⟨fun k hk => ?_, fun k hk => ?_, fun k r hk hr => ?_⟩
    · obtain ⟨r, h1, _⟩ := mul_some .f64 x (tabN k) hx (hT k hk)
      exact ⟨r, h1⟩
    · obtain ⟨r, h1, _⟩ := div_some .f64 x (tabN k) hx (hT k hk)
      exact ⟨r, h1⟩
    · obtain ⟨r', h1, h2⟩ := mul_some .f64 x (tabN k) hx (hT k hk)
      rw [hr] at h1
      injection h1 with h1
      subst h1
      obtain ⟨r2, h3, _⟩ := mul_some .f64 r (tabN 22) h2 (hT 22 (by omega))
      exact ⟨r2, h3⟩
  cases ng with
  | false =>
    obtain ⟨k1, k2, k3⟩ := key _ (ofInt_nn .f64 m)
    have e1 : sgnInt .f64 false m = floatOfInt .f64 m := if_neg (by decide)
    rw [e1]
    exact told64_false tabN m e hm0 hm1 hdv c c' hc hc' k1 k2 (fun k r hk hr => k3 k r hk hr)
  | true =>
    obtain ⟨k1, k2, k3⟩ := key _ (neg_nn .f64 _ (ofInt_nn .f64 m))
    have e1 : sgnInt .f64 true m = Op.negFloat .f64 (floatOfInt .f64 m) := if_pos rfl
    rw [e1]
    exact told64_true tabN m e hm0 hm1 hdv c c' hc hc' k1 k2 (fun k r hk hr => k3 k r hk hr)
set_option maxHeartbeats 1000000 in
theorem ex32_zero_false (tab : Nat → Nat) (m : Int) (hm0 : 0 ≤ m) (hm1 : m < 18446744073709551616) (hdv : (m / 8388608 == 0) = true)  (w : World) (h : FPow32 tab w) :
    Calls Tryz.prog 244 #[.int .u64 m, .int .i64 (0), .bool false] w fun a w' => a = .returned (.tuple #[.float .f32 (floatOfInt .f32 m), .bool true]) ∧ w' = w := by
  obtain ⟨g, o, hg0, hg1, hg2, hg3⟩ := h.tab
  clear h
  go_enter Tryz.func244, Tryz.ntmps244
  go_wp2_with fail
  all_goals go_ret2
  all_goals exact ⟨rfl, rfl⟩
set_option maxHeartbeats 1000000 in
theorem ex32_pos_false (tab : Nat → Nat) (m : Int) (hm0 : 0 ≤ m) (hm1 : m < 18446744073709551616) (hdv : (m / 8388608 == 0) = true) (k : Nat) (q1 : 0 < (k : Int)) (q2 : (k : Int) ≤ 10) (r : Nat) (hr : FloatKind.f32.format.mul (floatOfInt .f32 m) (tab k) = some r) (c1 : ((FloatKind.f32.format.order (floatOfInt .f32 m) 1259902592) == some Ordering.gt) = false) (c2 : ((FloatKind.f32.format.order (floatOfInt .f32 m) 3407386240) == some Ordering.lt) = false) (w : World) (h : FPow32 tab w) :
    Calls Tryz.prog 244 #[.int .u64 m, .int .i64 ((k : Int)), .bool false] w fun a w' => a = .returned (.tuple #[.float .f32 (r), .bool true]) ∧ w' = w := by
  have hk9 : 0 < k := by omega
  obtain ⟨g, o, hg0, hg1, hg2, hg3⟩ := h.tab
  have hk := hg3 k (by omega)
  clear h
  go_enter Tryz.func244, Tryz.ntmps244
  go_wp2_with fail
  all_goals go_ret2
  all_goals exact ⟨rfl, rfl⟩
set_option maxHeartbeats 1000000 in
theorem ex32_pos1_false (tab : Nat → Nat) (m : Int) (hm0 : 0 ≤ m) (hm1 : m < 18446744073709551616) (hdv : (m / 8388608 == 0) = true) (k : Nat) (q1 : 0 < (k : Int)) (q2 : (k : Int) ≤ 10) (r : Nat) (hr : FloatKind.f32.format.mul (floatOfInt .f32 m) (tab k) = some r) (c1 : ((FloatKind.f32.format.order (floatOfInt .f32 m) 1259902592) == some Ordering.gt) = true) (w : World) (h : FPow32 tab w) :
    Calls Tryz.prog 244 #[.int .u64 m, .int .i64 ((k : Int)), .bool false] w fun a w' => a = .returned (.tuple #[.float .f32 (floatOfInt .f32 m), .bool false]) ∧ w' = w := by
  have hk9 : 0 < k := by omega
  obtain ⟨g, o, hg0, hg1, hg2, hg3⟩ := h.tab
  have hk := hg3 k (by omega)
  clear h
  go_enter Tryz.func244, Tryz.ntmps244
  go_wp2_with fail
  all_goals go_ret2
  all_goals exact ⟨rfl, rfl⟩
set_option maxHeartbeats 1000000 in
theorem ex32_pos2_false (tab : Nat → Nat) (m : Int) (hm0 : 0 ≤ m) (hm1 : m < 18446744073709551616) (hdv : (m / 8388608 == 0) = true) (k : Nat) (q1 : 0 < (k : Int)) (q2 : (k : Int) ≤ 10) (r : Nat) (hr : FloatKind.f32.format.mul (floatOfInt .f32 m) (tab k) = some r) (c1 : ((FloatKind.f32.format.order (floatOfInt .f32 m) 1259902592) == some Ordering.gt) = false) (c2 : ((FloatKind.f32.format.order (floatOfInt .f32 m) 3407386240) == some Ordering.lt) = true) (w : World) (h : FPow32 tab w) :
    Calls Tryz.prog 244 #[.int .u64 m, .int .i64 ((k : Int)), .bool false] w fun a w' => a = .returned (.tuple #[.float .f32 (floatOfInt .f32 m), .bool false]) ∧ w' = w := by
  have hk9 : 0 < k := by omega
  obtain ⟨g, o, hg0, hg1, hg2, hg3⟩ := h.tab
  have hk := hg3 k (by omega)
  clear h
  go_enter Tryz.func244, Tryz.ntmps244
  go_wp2_with fail
  all_goals go_ret2
  all_goals exact ⟨rfl, rfl⟩
set_option maxHeartbeats 1000000 in
theorem ex32_neg_false (tab : Nat → Nat) (m : Int) (hm0 : 0 ≤ m) (hm1 : m < 18446744073709551616) (hdv : (m / 8388608 == 0) = true) (e : Int) (k : Nat) (hk0 : -e = k) (q1 : -10 ≤ e) (q2 : e < 0) (r : Nat) (hr : FloatKind.f32.format.div (floatOfInt .f32 m) (tab k) = some r) (w : World) (h : FPow32 tab w) :
    Calls Tryz.prog 244 #[.int .u64 m, .int .i64 (e), .bool false] w fun a w' => a = .returned (.tuple #[.float .f32 (r), .bool true]) ∧ w' = w := by
  obtain rfl : e = -(k : Int) := by omega
  have hnn : -(-(k : Int)) = k := by omega
  have hk9 : 0 < k := by omega
  obtain ⟨g, o, hg0, hg1, hg2, hg3⟩ := h.tab
  have hk := hg3 k (by omega)
  clear h
  go_enter Tryz.func244, Tryz.ntmps244
  go_wp2_with fail
  all_goals go_ret2
  all_goals exact ⟨rfl, rfl⟩
set_option maxHeartbeats 1000000 in
theorem ex32_big_false (tab : Nat → Nat) (m : Int) (hm0 : 0 ≤ m) (hm1 : m < 18446744073709551616) (hdv : (m / 8388608 == 0) = true) (e : Int) (q1 : 10 < e) (q2 : e ≤ 17) (k : Nat) (hnn : e - 10 = (k : Int)) (r : Nat) (hr : FloatKind.f32.format.mul (floatOfInt .f32 m) (tab k) = some r) (c1 : ((FloatKind.f32.format.order (r) 1259902592) == some Ordering.gt) = false) (c2 : ((FloatKind.f32.format.order (r) 3407386240) == some Ordering.lt) = false) (r2 : Nat) (hr2 : FloatKind.f32.format.mul r (tab 10) = some r2) (w : World) (h : FPow32 tab w) :
    Calls Tryz.prog 244 #[.int .u64 m, .int .i64 (e), .bool false] w fun a w' => a = .returned (.tuple #[.float .f32 (r2), .bool true]) ∧ w' = w := by
  have he9 : 0 < e := by omega
  obtain ⟨g, o, hg0, hg1, hg2, hg3⟩ := h.tab
  have hk := hg3 k (by omega)
  have hk2 := hg3 10 (by omega)
  clear h
  go_enter Tryz.func244, Tryz.ntmps244
  go_wp2_with fail
  all_goals go_ret2
  all_goals exact ⟨rfl, rfl⟩
set_option maxHeartbeats 1000000 in
theorem ex32_big1_false (tab : Nat → Nat) (m : Int) (hm0 : 0 ≤ m) (hm1 : m < 18446744073709551616) (hdv : (m / 8388608 == 0) = true) (e : Int) (q1 : 10 < e) (q2 : e ≤ 17) (k : Nat) (hnn : e - 10 = (k : Int)) (r : Nat) (hr : FloatKind.f32.format.mul (floatOfInt .f32 m) (tab k) = some r) (c1 : ((FloatKind.f32.format.order (r) 1259902592) == some Ordering.gt) = true) (w : World) (h : FPow32 tab w) :
    Calls Tryz.prog 244 #[.int .u64 m, .int .i64 (e), .bool false] w fun a w' => a = .returned (.tuple #[.float .f32 (r), .bool false]) ∧ w' = w := by
  have he9 : 0 < e := by omega
  obtain ⟨g, o, hg0, hg1, hg2, hg3⟩ := h.tab
  have hk := hg3 k (by omega)
  have hk2 := hg3 10 (by omega)
  clear h
  go_enter Tryz.func244, Tryz.ntmps244
  go_wp2_with fail
  all_goals go_ret2
  all_goals exact ⟨rfl, rfl⟩
set_option maxHeartbeats 1000000 in
theorem ex32_big2_false (tab : Nat → Nat) (m : Int) (hm0 : 0 ≤ m) (hm1 : m < 18446744073709551616) (hdv : (m / 8388608 == 0) = true) (e : Int) (q1 : 10 < e) (q2 : e ≤ 17) (k : Nat) (hnn : e - 10 = (k : Int)) (r : Nat) (hr : FloatKind.f32.format.mul (floatOfInt .f32 m) (tab k) = some r) (c1 : ((FloatKind.f32.format.order (r) 1259902592) == some Ordering.gt) = false) (c2 : ((FloatKind.f32.format.order (r) 3407386240) == some Ordering.lt) = true) (w : World) (h : FPow32 tab w) :
    Calls Tryz.prog 244 #[.int .u64 m, .int .i64 (e), .bool false] w fun a w' => a = .returned (.tuple #[.float .f32 (r), .bool false]) ∧ w' = w := by
  have he9 : 0 < e := by omega
  obtain ⟨g, o, hg0, hg1, hg2, hg3⟩ := h.tab
  have hk := hg3 k (by omega)
  have hk2 := hg3 10 (by omega)
  clear h
  go_enter Tryz.func244, Tryz.ntmps244
  go_wp2_with fail
  all_goals go_ret2
  all_goals exact ⟨rfl, rfl⟩
set_option maxHeartbeats 1000000 in
theorem ex32_far1_false (tab : Nat → Nat) (m : Int) (hm0 : 0 ≤ m) (hm1 : m < 18446744073709551616) (hdv : (m / 8388608 == 0) = true) (e : Int) (p5 : 17 < e) (w : World) (h : FPow32 tab w) :
    Calls Tryz.prog 244 #[.int .u64 m, .int .i64 (e), .bool false] w fun a w' => a = .returned (.tuple #[.float .f32 (floatOfInt .f32 m), .bool false]) ∧ w' = w := by
  have he9 : 0 < e := by omega
  obtain ⟨g, o, hg0, hg1, hg2, hg3⟩ := h.tab
  clear h
  go_enter Tryz.func244, Tryz.ntmps244
  go_wp2_with fail
  all_goals go_ret2
  all_goals exact ⟨rfl, rfl⟩
set_option maxHeartbeats 1000000 in
theorem ex32_far2_false (tab : Nat → Nat) (m : Int) (hm0 : 0 ≤ m) (hm1 : m < 18446744073709551616) (hdv : (m / 8388608 == 0) = true) (e : Int) (p5 : e < -10) (w : World) (h : FPow32 tab w) :
    Calls Tryz.prog 244 #[.int .u64 m, .int .i64 (e), .bool false] w fun a w' => a = .returned (.tuple #[.float .f32 (floatOfInt .f32 m), .bool false]) ∧ w' = w := by
  have he9 : e < 0 := by omega
  obtain ⟨g, o, hg0, hg1, hg2, hg3⟩ := h.tab
  clear h
  go_enter Tryz.func244, Tryz.ntmps244
  go_wp2_with fail
  all_goals go_ret2
  all_goals exact ⟨rfl, rfl⟩
theorem told32_false (tab : Nat → Nat) (m e : Int) (hm0 : 0 ≤ m) (hm1 : m < 18446744073709551616) (hdv : (m / 8388608 == 0) = true) (c c' : Nat) (hc : c = 1259902592) (hc' : c' = 3407386240)
    (hM : ∀ k, k < 11 → ∃ r, FloatKind.f32.format.mul (floatOfInt .f32 m) (tab k) = some r) (hD : ∀ k, k < 11 → ∃ r, FloatKind.f32.format.div (floatOfInt .f32 m) (tab k) = some r)
    (hM2 : ∀ k r, k < 11 → FloatKind.f32.format.mul (floatOfInt .f32 m) (tab k) = some r → ∃ r2, FloatKind.f32.format.mul r (tab 10) = some r2) :
    ∃ (f : Nat) (ok : Bool), (ok = true → ExTold .f32 tab 10 17 c c' (floatOfInt .f32 m) e f) ∧ ∀ w, FPow32 tab w → Calls Tryz.prog 244 #[.int .u64 m, .int .i64 e, .bool false] w fun r w' => r = .returned (.tuple #[.float .f32 f, .bool ok]) ∧ w' = w := by
  have no : ∀ (P : Prop), false = true → P := fun P h => by cases h
  by_cases z : e = 0
  · subst z
    exact ⟨_, true, fun _ => ex_a rfl, fun w h => ex32_zero_false tab m hm0 hm1 hdv w h⟩
  · by_cases p1 : 0 < e ∧ e ≤ 10
    · obtain ⟨q1, q2⟩ := p1
      obtain ⟨k, rfl⟩ := nat_of' e (by omega)
      obtain ⟨r, hr⟩ := hM k (by omega)
      cases c1 : ((FloatKind.f32.format.order (floatOfInt .f32 m) c) == some Ordering.gt) with
      | true => exact ⟨_, false, no _, fun w h => ex32_pos1_false tab m hm0 hm1 hdv k q1 q2 r hr (by rw [← hc]; exact c1) w h⟩
      | false =>
        cases c2 : ((FloatKind.f32.format.order (floatOfInt .f32 m) c') == some Ordering.lt) with
        | true => exact ⟨_, false, no _, fun w h => ex32_pos2_false tab m hm0 hm1 hdv k q1 q2 r hr (by rw [← hc]; exact c1) (by rw [← hc']; exact c2) w h⟩
        | false => exact ⟨_, true, fun _ => ex_b (by omega) q2 hr, fun w h => ex32_pos_false tab m hm0 hm1 hdv k q1 q2 r hr (by rw [← hc]; exact c1) (by rw [← hc']; exact c2) w h⟩
    · by_cases p2 : -10 ≤ e ∧ e < 0
      · obtain ⟨q1, q2⟩ := p2
        obtain ⟨k, hk0⟩ := nat_of' (-e) (by omega)
        obtain ⟨r, hr⟩ := hD k (by omega)
        exact ⟨_, true, fun _ => ex_c (by omega) (by omega) (by omega) hr, fun w h => ex32_neg_false tab m hm0 hm1 hdv e k hk0 q1 q2 r hr w h⟩
      · by_cases p3 : 10 < e ∧ e ≤ 17
        · obtain ⟨q1, q2⟩ := p3
          obtain ⟨k, hk0⟩ := nat_of' (e - 10) (by omega)
          obtain ⟨r, hr⟩ := hM k (by omega)
          cases c1 : ((FloatKind.f32.format.order r c) == some Ordering.gt) with
          | true => exact ⟨_, false, no _, fun w h => ex32_big1_false tab m hm0 hm1 hdv e q1 q2 k hk0 r hr (by rw [← hc]; exact c1) w h⟩
          | false =>
            cases c2 : ((FloatKind.f32.format.order r c') == some Ordering.lt) with
            | true => exact ⟨_, false, no _, fun w h => ex32_big2_false tab m hm0 hm1 hdv e q1 q2 k hk0 r hr (by rw [← hc]; exact c1) (by rw [← hc']; exact c2) w h⟩
            | false =>
              obtain ⟨r2, hr2⟩ := hM2 k r (by omega) hr
              exact ⟨_, true, fun _ => ex_d (by omega) (by omega) q2 hr c1 c2 (by exact hr2), fun w h => ex32_big_false tab m hm0 hm1 hdv e q1 q2 k hk0 r hr (by rw [← hc]; exact c1) (by rw [← hc']; exact c2) r2 hr2 w h⟩
        · by_cases p4 : 0 < e
          · exact ⟨_, false, no _, fun w h => ex32_far1_false tab m hm0 hm1 hdv e (by omega) w h⟩
          · exact ⟨_, false, no _, fun w h => ex32_far2_false tab m hm0 hm1 hdv e (by omega) w h⟩
set_option maxHeartbeats 1000000 in
theorem ex32_zero_true (tab : Nat → Nat) (m : Int) (hm0 : 0 ≤ m) (hm1 : m < 18446744073709551616) (hdv : (m / 8388608 == 0) = true)  (w : World) (h : FPow32 tab w) :
    Calls Tryz.prog 244 #[.int .u64 m, .int .i64 (0), .bool true] w fun a w' => a = .returned (.tuple #[.float .f32 (Op.negFloat .f32 (floatOfInt .f32 m)), .bool true]) ∧ w' = w := by
  obtain ⟨g, o, hg0, hg1, hg2, hg3⟩ := h.tab
  clear h
  go_enter Tryz.func244, Tryz.ntmps244
  go_wp2_with fail
  all_goals go_ret2
  all_goals exact ⟨rfl, rfl⟩
set_option maxHeartbeats 1000000 in
theorem ex32_pos_true (tab : Nat → Nat) (m : Int) (hm0 : 0 ≤ m) (hm1 : m < 18446744073709551616) (hdv : (m / 8388608 == 0) = true) (k : Nat) (q1 : 0 < (k : Int)) (q2 : (k : Int) ≤ 10) (r : Nat) (hr : FloatKind.f32.format.mul (Op.negFloat .f32 (floatOfInt .f32 m)) (tab k) = some r) (c1 : ((FloatKind.f32.format.order (Op.negFloat .f32 (floatOfInt .f32 m)) 1259902592) == some Ordering.gt) = false) (c2 : ((FloatKind.f32.format.order (Op.negFloat .f32 (floatOfInt .f32 m)) 3407386240) == some Ordering.lt) = false) (w : World) (h : FPow32 tab w) :
    Calls Tryz.prog 244 #[.int .u64 m, .int .i64 ((k : Int)), .bool true] w fun a w' => a = .returned (.tuple #[.float .f32 (r), .bool true]) ∧ w' = w := by
  have hk9 : 0 < k := by omega
  obtain ⟨g, o, hg0, hg1, hg2, hg3⟩ := h.tab
  have hk := hg3 k (by omega)
  clear h
  go_enter Tryz.func244, Tryz.ntmps244
  go_wp2_with fail
  all_goals go_ret2
  all_goals exact ⟨rfl, rfl⟩
set_option maxHeartbeats 1000000 in
theorem ex32_pos1_true (tab : Nat → Nat) (m : Int) (hm0 : 0 ≤ m) (hm1 : m < 18446744073709551616) (hdv : (m / 8388608 == 0) = true) (k : Nat) (q1 : 0 < (k : Int)) (q2 : (k : Int) ≤ 10) (r : Nat) (hr : FloatKind.f32.format.mul (Op.negFloat .f32 (floatOfInt .f32 m)) (tab k) = some r) (c1 : ((FloatKind.f32.format.order (Op.negFloat .f32 (floatOfInt .f32 m)) 1259902592) == some Ordering.gt) = true) (w : World) (h : FPow32 tab w) :
    Calls Tryz.prog 244 #[.int .u64 m, .int .i64 ((k : Int)), .bool true] w fun a w' => a = .returned (.tuple #[.float .f32 (Op.negFloat .f32 (floatOfInt .f32 m)), .bool false]) ∧ w' = w := by
  have hk9 : 0 < k := by omega
  obtain ⟨g, o, hg0, hg1, hg2, hg3⟩ := h.tab
  have hk := hg3 k (by omega)
  clear h
  go_enter Tryz.func244, Tryz.ntmps244
  go_wp2_with fail
  all_goals go_ret2
  all_goals exact ⟨rfl, rfl⟩
set_option maxHeartbeats 1000000 in
theorem ex32_pos2_true (tab : Nat → Nat) (m : Int) (hm0 : 0 ≤ m) (hm1 : m < 18446744073709551616) (hdv : (m / 8388608 == 0) = true) (k : Nat) (q1 : 0 < (k : Int)) (q2 : (k : Int) ≤ 10) (r : Nat) (hr : FloatKind.f32.format.mul (Op.negFloat .f32 (floatOfInt .f32 m)) (tab k) = some r) (c1 : ((FloatKind.f32.format.order (Op.negFloat .f32 (floatOfInt .f32 m)) 1259902592) == some Ordering.gt) = false) (c2 : ((FloatKind.f32.format.order (Op.negFloat .f32 (floatOfInt .f32 m)) 3407386240) == some Ordering.lt) = true) (w : World) (h : FPow32 tab w) :
    Calls Tryz.prog 244 #[.int .u64 m, .int .i64 ((k : Int)), .bool true] w fun a w' => a = .returned (.tuple #[.float .f32 (Op.negFloat .f32 (floatOfInt .f32 m)), .bool false]) ∧ w' = w := by
  have hk9 : 0 < k := by omega
  obtain ⟨g, o, hg0, hg1, hg2, hg3⟩ := h.tab
  have hk := hg3 k (by omega)
  clear h
  go_enter Tryz.func244, Tryz.ntmps244
  go_wp2_with fail
  all_goals go_ret2
  all_goals exact ⟨rfl, rfl⟩
set_option maxHeartbeats 1000000 in
theorem ex32_neg_true (tab : Nat → Nat) (m : Int) (hm0 : 0 ≤ m) (hm1 : m < 18446744073709551616) (hdv : (m / 8388608 == 0) = true) (e : Int) (k : Nat) (hk0 : -e = k) (q1 : -10 ≤ e) (q2 : e < 0) (r : Nat) (hr : FloatKind.f32.format.div (Op.negFloat .f32 (floatOfInt .f32 m)) (tab k) = some r) (w : World) (h : FPow32 tab w) :
    Calls Tryz.prog 244 #[.int .u64 m, .int .i64 (e), .bool true] w fun a w' => a = .returned (.tuple #[.float .f32 (r), .bool true]) ∧ w' = w := by
  obtain rfl : e = -(k : Int) := by omega
  have hnn : -(-(k : Int)) = k := by omega
  have hk9 : 0 < k := by omega
  obtain ⟨g, o, hg0, hg1, hg2, hg3⟩ := h.tab
  have hk := hg3 k (by omega)
  clear h
  go_enter Tryz.func244, Tryz.ntmps244
  go_wp2_with fail
  all_goals go_ret2
  all_goals exact ⟨rfl, rfl⟩
set_option maxHeartbeats 1000000 in
theorem ex32_big_true (tab : Nat → Nat) (m : Int) (hm0 : 0 ≤ m) (hm1 : m < 18446744073709551616) (hdv : (m / 8388608 == 0) = true) (e : Int) (q1 : 10 < e) (q2 : e ≤ 17) (k : Nat) (hnn : e - 10 = (k : Int)) (r : Nat) (hr : FloatKind.f32.format.mul (Op.negFloat .f32 (floatOfInt .f32 m)) (tab k) = some r) (c1 : ((FloatKind.f32.format.order (r) 1259902592) == some Ordering.gt) = false) (c2 : ((FloatKind.f32.format.order (r) 3407386240) == some Ordering.lt) = false) (r2 : Nat) (hr2 : FloatKind.f32.format.mul r (tab 10) = some r2) (w : World) (h : FPow32 tab w) :
    Calls Tryz.prog 244 #[.int .u64 m, .int .i64 (e), .bool true] w fun a w' => a = .returned (.tuple #[.float .f32 (r2), .bool true]) ∧ w' = w := by
  have he9 : 0 < e := by omega
  obtain ⟨g, o, hg0, hg1, hg2, hg3⟩ := h.tab
  have hk := hg3 k (by omega)
  have hk2 := hg3 10 (by omega)
  clear h
  go_enter Tryz.func244, Tryz.ntmps244
  go_wp2_with fail
  all_goals go_ret2
  all_goals exact ⟨rfl, rfl⟩
set_option maxHeartbeats 1000000 in
theorem ex32_big1_true (tab : Nat → Nat) (m : Int) (hm0 : 0 ≤ m) (hm1 : m < 18446744073709551616) (hdv : (m / 8388608 == 0) = true) (e : Int) (q1 : 10 < e) (q2 : e ≤ 17) (k : Nat) (hnn : e - 10 = (k : Int)) (r : Nat) (hr : FloatKind.f32.format.mul (Op.negFloat .f32 (floatOfInt .f32 m)) (tab k) = some r) (c1 : ((FloatKind.f32.format.order (r) 1259902592) == some Ordering.gt) = true) (w : World) (h : FPow32 tab w) :
    Calls Tryz.prog 244 #[.int .u64 m, .int .i64 (e), .bool true] w fun a w' => a = .returned (.tuple #[.float .f32 (r), .bool false]) ∧ w' = w := by
  have he9 : 0 < e := by omega
  obtain ⟨g, o, hg0, hg1, hg2, hg3⟩ := h.tab
  have hk := hg3 k (by omega)
  have hk2 := hg3 10 (by omega)
  clear h
  go_enter Tryz.func244, Tryz.ntmps244
  go_wp2_with fail
  all_goals go_ret2
  all_goals exact ⟨rfl, rfl⟩
set_option maxHeartbeats 1000000 in
theorem ex32_big2_true (tab : Nat → Nat) (m : Int) (hm0 : 0 ≤ m) (hm1 : m < 18446744073709551616) (hdv : (m / 8388608 == 0) = true) (e : Int) (q1 : 10 < e) (q2 : e ≤ 17) (k : Nat) (hnn : e - 10 = (k : Int)) (r : Nat) (hr : FloatKind.f32.format.mul (Op.negFloat .f32 (floatOfInt .f32 m)) (tab k) = some r) (c1 : ((FloatKind.f32.format.order (r) 1259902592) == some Ordering.gt) = false) (c2 : ((FloatKind.f32.format.order (r) 3407386240) == some Ordering.lt) = true) (w : World) (h : FPow32 tab w) :
    Calls Tryz.prog 244 #[.int .u64 m, .int .i64 (e), .bool true] w fun a w' => a = .returned (.tuple #[.float .f32 (r), .bool false]) ∧ w' = w := by
  have he9 : 0 < e := by omega
  obtain ⟨g, o, hg0, hg1, hg2, hg3⟩ := h.tab
  have hk := hg3 k (by omega)
  have hk2 := hg3 10 (by omega)
  clear h
  go_enter Tryz.func244, Tryz.ntmps244
  go_wp2_with fail
  all_goals go_ret2
  all_goals exact ⟨rfl, rfl⟩
set_option maxHeartbeats 1000000 in
theorem ex32_far1_true (tab : Nat → Nat) (m : Int) (hm0 : 0 ≤ m) (hm1 : m < 18446744073709551616) (hdv : (m / 8388608 == 0) = true) (e : Int) (p5 : 17 < e) (w : World) (h : FPow32 tab w) :
    Calls Tryz.prog 244 #[.int .u64 m, .int .i64 (e), .bool true] w fun a w' => a = .returned (.tuple #[.float .f32 (Op.negFloat .f32 (floatOfInt .f32 m)), .bool false]) ∧ w' = w := by
  have he9 : 0 < e := by omega
  obtain ⟨g, o, hg0, hg1, hg2, hg3⟩ := h.tab
  clear h
  go_enter Tryz.func244, Tryz.ntmps244
  go_wp2_with fail
  all_goals go_ret2
  all_goals exact ⟨rfl, rfl⟩
set_option maxHeartbeats 1000000 in
theorem ex32_far2_true (tab : Nat → Nat) (m : Int) (hm0 : 0 ≤ m) (hm1 : m < 18446744073709551616) (hdv : (m / 8388608 == 0) = true) (e : Int) (p5 : e < -10) (w : World) (h : FPow32 tab w) :
    Calls Tryz.prog 244 #[.int .u64 m, .int .i64 (e), .bool true] w fun a w' => a = .returned (.tuple #[.float .f32 (Op.negFloat .f32 (floatOfInt .f32 m)), .bool false]) ∧ w' = w := by
  have he9 : e < 0 := by omega
  obtain ⟨g, o, hg0, hg1, hg2, hg3⟩ := h.tab
  clear h
  go_enter Tryz.func244, Tryz.ntmps244
  go_wp2_with fail
  all_goals go_ret2
  all_goals exact ⟨rfl, rfl⟩
theorem told32_true (tab : Nat → Nat) (m e : Int) (hm0 : 0 ≤ m) (hm1 : m < 18446744073709551616) (hdv : (m / 8388608 == 0) = true) (c c' : Nat) (hc : c = 1259902592) (hc' : c' = 3407386240)
    (hM : ∀ k, k < 11 → ∃ r, FloatKind.f32.format.mul (Op.negFloat .f32 (floatOfInt .f32 m)) (tab k) = some r) (hD : ∀ k, k < 11 → ∃ r, FloatKind.f32.format.div (Op.negFloat .f32 (floatOfInt .f32 m)) (tab k) = some r)
    (hM2 : ∀ k r, k < 11 → FloatKind.f32.format.mul (Op.negFloat .f32 (floatOfInt .f32 m)) (tab k) = some r → ∃ r2, FloatKind.f32.format.mul r (tab 10) = some r2) :
    ∃ (f : Nat) (ok : Bool), (ok = true → ExTold .f32 tab 10 17 c c' (Op.negFloat .f32 (floatOfInt .f32 m)) e f) ∧ ∀ w, FPow32 tab w → Calls Tryz.prog 244 #[.int .u64 m, .int .i64 e, .bool true] w fun r w' => r = .returned (.tuple #[.float .f32 f, .bool ok]) ∧ w' = w := by
  have no : ∀ (P : Prop), false = true → P := fun P h => by cases h
  by_cases z : e = 0
  · subst z
    exact ⟨_, true, fun _ => ex_a rfl, fun w h => ex32_zero_true tab m hm0 hm1 hdv w h⟩
  · by_cases p1 : 0 < e ∧ e ≤ 10
    · obtain ⟨q1, q2⟩ := p1
      obtain ⟨k, rfl⟩ := nat_of' e (by omega)
      obtain ⟨r, hr⟩ := hM k (by omega)
      cases c1 : ((FloatKind.f32.format.order (Op.negFloat .f32 (floatOfInt .f32 m)) c) == some Ordering.gt) with
      | true => exact ⟨_, false, no _, fun w h => ex32_pos1_true tab m hm0 hm1 hdv k q1 q2 r hr (by rw [← hc]; exact c1) w h⟩
      | false =>
        cases c2 : ((FloatKind.f32.format.order (Op.negFloat .f32 (floatOfInt .f32 m)) c') == some Ordering.lt) with
        | true => exact ⟨_, false, no _, fun w h => ex32_pos2_true tab m hm0 hm1 hdv k q1 q2 r hr (by rw [← hc]; exact c1) (by rw [← hc']; exact c2) w h⟩
        | false => exact ⟨_, true, fun _ => ex_b (by omega) q2 hr, fun w h => ex32_pos_true tab m hm0 hm1 hdv k q1 q2 r hr (by rw [← hc]; exact c1) (by rw [← hc']; exact c2) w h⟩
    · by_cases p2 : -10 ≤ e ∧ e < 0
      · obtain ⟨q1, q2⟩ := p2
        obtain ⟨k, hk0⟩ := nat_of' (-e) (by omega)
        obtain ⟨r, hr⟩ := hD k (by omega)
        exact ⟨_, true, fun _ => ex_c (by omega) (by omega) (by omega) hr, fun w h => ex32_neg_true tab m hm0 hm1 hdv e k hk0 q1 q2 r hr w h⟩
      · by_cases p3 : 10 < e ∧ e ≤ 17
        · obtain ⟨q1, q2⟩ := p3
          obtain ⟨k, hk0⟩ := nat_of' (e - 10) (by omega)
          obtain ⟨r, hr⟩ := hM k (by omega)
          cases c1 : ((FloatKind.f32.format.order r c) == some Ordering.gt) with
          | true => exact ⟨_, false, no _, fun w h => ex32_big1_true tab m hm0 hm1 hdv e q1 q2 k hk0 r hr (by rw [← hc]; exact c1) w h⟩
          | false =>
            cases c2 : ((FloatKind.f32.format.order r c') == some Ordering.lt) with
            | true => exact ⟨_, false, no _, fun w h => ex32_big2_true tab m hm0 hm1 hdv e q1 q2 k hk0 r hr (by rw [← hc]; exact c1) (by rw [← hc']; exact c2) w h⟩
            | false =>
              obtain ⟨r2, hr2⟩ := hM2 k r (by omega) hr
              exact ⟨_, true, fun _ => ex_d (by omega) (by omega) q2 hr c1 c2 (by exact hr2), fun w h => ex32_big_true tab m hm0 hm1 hdv e q1 q2 k hk0 r hr (by rw [← hc]; exact c1) (by rw [← hc']; exact c2) r2 hr2 w h⟩
        · by_cases p4 : 0 < e
          · exact ⟨_, false, no _, fun w h => ex32_far1_true tab m hm0 hm1 hdv e (by omega) w h⟩
          · exact ⟨_, false, no _, fun w h => ex32_far2_true tab m hm0 hm1 hdv e (by omega) w h⟩
/-- atof32exact: total, and what it answers is told. -/
theorem told32 (tabN : Nat → Nat) (hT : ∀ k, k < 11 → NotNought .f32 (tabN k)) (m e : Int) (ng : Bool) (hm0 : 0 ≤ m) (hm1 : m < 18446744073709551616) (hdv : (m / 8388608 == 0) = true) (c c' : Nat) (hc : c = 1259902592) (hc' : c' = 3407386240) :
    ∃ (f : Nat) (ok : Bool), (ok = true → ExTold .f32 tabN 10 17 c c' (sgnInt .f32 ng m) e f) ∧ ∀ w, FPow32 tabN w → Calls Tryz.prog 244 #[.int .u64 m, .int .i64 e, .bool ng] w fun r w' => r = .returned (.tuple #[.float .f32 f, .bool ok]) ∧ w' = w := by
  have key : ∀ x, NoNan .f32 x → (∀ k, k < 11 → ∃ r, FloatKind.f32.format.mul x (tabN k) = some r) ∧ (∀ k, k < 11 → ∃ r, FloatKind.f32.format.div x (tabN k) = some r) ∧
      (∀ k r, k < 11 → FloatKind.f32.format.mul x (tabN k) = some r → ∃ r2, FloatKind.f32.format.mul r (tabN 10) = some r2) := fun x hx => by
    refine ⟨fun k hk => ?_, fun k hk => ?_, fun k r hk hr => ?_⟩
    · obtain ⟨r, h1, _⟩ := mul_some .f32 x (tabN k) hx (hT k hk)
      exact ⟨r, h1⟩
    · obtain ⟨r, h1, _⟩ := div_some .f32 x (tabN k) hx (hT k hk)
      exact ⟨r, h1⟩
    · obtain ⟨r', h1, h2⟩ := mul_some .f32 x (tabN k) hx (hT k hk)
      rw [hr] at h1
      injection h1 with h1
      subst h1
      obtain ⟨r2, h3, _⟩ := mul_some .f32 r (tabN 10) h2 (hT 10 (by omega))
      exact ⟨r2, h3⟩
  cases ng with
  | false =>
    obtain ⟨k1, k2, k3⟩ := key _ (ofInt_nn .f32 m)
    have e1 : sgnInt .f32 false m = floatOfInt .f32 m := if_neg (by decide)
    rw [e1]
    exact told32_false tabN m e hm0 hm1 hdv c c' hc hc' k1 k2 (fun k r hk hr => k3 k r hk hr)
  | true =>
    obtain ⟨k1, k2, k3⟩ := key _ (neg_nn .f32 _ (ofInt_nn .f32 m))
    have e1 : sgnInt .f32 true m = Op.negFloat .f32 (floatOfInt .f32 m) := if_pos rfl
    rw [e1]
    exact told32_true tabN m e hm0 hm1 hdv c c' hc hc' k1 k2 (fun k r hk hr => k3 k r hk hr)
theorem exact32_big (m e : Int) (ng : Bool) (hm0 : 0 ≤ m) (hm1 : m < 18446744073709551616) (hdv : (m / 8388608 == 0) = false) (w : World) :
    Calls Tryz.prog 244 #[.int .u64 m, .int .i64 e, .bool ng] w fun r w' => r = .returned (.tuple #[.float .f32 0, .bool false]) ∧ w' = w := by
  go_enter Tryz.func244, Tryz.ntmps244
  go_wp2_with fail
  all_goals go_ret2
  all_goals exact ⟨rfl, rfl⟩
end Go.Proofs.YtnggkkdcddpjlaaGreatDoor
