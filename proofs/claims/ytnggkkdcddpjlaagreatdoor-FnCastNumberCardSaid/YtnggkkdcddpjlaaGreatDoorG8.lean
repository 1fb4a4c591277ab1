/- internal/strconv.atof64exact: total, and its answers hang on its arguments alone. -/
import Derived.Test.YtnggkkdcddpjlaaGreatDoorG1
namespace Go.Proofs.YtnggkkdcddpjlaaGreatDoor
open Go.RowKit
set_option maxRecDepth 100000
set_option linter.unusedVariables false
set_option linter.unusedSimpArgs false
/-- The float's format and the table of powers, in the world. -/
structure FPow (tab : Nat → Nat) (w : World) : Prop where
  mb : w.cell? ⟨6, 0, none⟩ = some (.int .u64 52)
  tab : ∃ g o, 13 < w.heap.size ∧ g < w.heap.size ∧ w.cell? ⟨13, 0, none⟩ = some (.slice (some ⟨g, o, none⟩) 23 23) ∧ ∀ i, i < 23 → w.cell? ⟨g, o + i, none⟩ = some (.float .f64 (tab i))
@[go_sem] theorem binOp_fmul (t : TypeId) (k : FloatKind) (a b r : Nat) (h : k.format.mul a b = some r) : binOp .mul t (.float k a) (.float k b) = pure (.float k r) := by simp [binOp, Op.floatArith, h]
@[go_sem] theorem binOp_fquo (t : TypeId) (k : FloatKind) (a b r : Nat) (h : k.format.div a b = some r) : binOp .quo t (.float k a) (.float k b) = pure (.float k r) := by simp [binOp, Op.floatArith, h]
@[go_sem] theorem unOp_fneg (k : FloatKind) (a : Nat) : Op.unary .neg (.float k a) = pure (.float k (Op.negFloat k a)) := rfl
theorem nat_of' (x : Int) (h : 0 ≤ x) : ∃ n : Nat, x = n := ⟨x.toNat, by omega⟩
set_option maxHeartbeats 1000000 in
theorem exact_false (tab : Nat → Nat) (m e : Int) (hm0 : 0 ≤ m) (hm1 : m < 18446744073709551616) (hdv : (m / 4503599627370496 == 0) = true)
    (hM : ∀ k, k < 23 → ∃ r, FloatKind.f64.format.mul (floatOfInt .f64 m) (tab k) = some r) (hD : ∀ k, k < 23 → ∃ r, FloatKind.f64.format.div (floatOfInt .f64 m) (tab k) = some r)
    (hM2 : ∀ k r, k < 23 → FloatKind.f64.format.mul (floatOfInt .f64 m) (tab k) = some r → ((FloatKind.f64.format.order r 4831355200913801216) == some Ordering.gt) = false → ((FloatKind.f64.format.order r 14054727237768577024) == some Ordering.lt) = false → ∃ r2, FloatKind.f64.format.mul r (tab 22) = some r2) :
    ∃ (f : Nat) (ok : Bool), ∀ w, FPow tab w → Calls Tryz.prog 250 #[.int .u64 m, .int .i64 e, .bool false] w fun r w' => r = .returned (.tuple #[.float .f64 f, .bool ok]) ∧ w' = w := by
  by_cases z : e = 0
  · subst z
    refine ⟨floatOfInt .f64 m, true, fun w h => ?_⟩
    have hmb := h.mb
    obtain ⟨g, o, hg0, hg1, hg2, hg3⟩ := h.tab
    clear h
    go_enter Tryz.func250, Tryz.ntmps250
    go_wp2_with fail
    all_goals go_ret2
    all_goals exact ⟨rfl, rfl⟩
  · by_cases p1 : 0 < e ∧ e ≤ 22
    · obtain ⟨q1, q2⟩ := p1
      obtain ⟨k, rfl⟩ := nat_of' e (by omega)
      obtain ⟨r, hr⟩ := hM k (by omega)
      cases c1 : ((FloatKind.f64.format.order (floatOfInt .f64 m) 4831355200913801216) == some Ordering.gt) with
      | true =>
        refine ⟨floatOfInt .f64 m, false, fun w h => ?_⟩
        have hmb := h.mb
        obtain ⟨g, o, hg0, hg1, hg2, hg3⟩ := h.tab
        have hk := hg3 k (by omega)
        clear h
        go_enter Tryz.func250, Tryz.ntmps250
        go_wp2_with fail
        all_goals go_ret2
        all_goals exact ⟨rfl, rfl⟩
      | false =>
        cases c2 : ((FloatKind.f64.format.order (floatOfInt .f64 m) 14054727237768577024) == some Ordering.lt) with
        | true =>
          refine ⟨floatOfInt .f64 m, false, fun w h => ?_⟩
          have hmb := h.mb
          obtain ⟨g, o, hg0, hg1, hg2, hg3⟩ := h.tab
          have hk := hg3 k (by omega)
          clear h
          go_enter Tryz.func250, Tryz.ntmps250
          go_wp2_with fail
          all_goals go_ret2
          all_goals exact ⟨rfl, rfl⟩
        | false =>
          refine ⟨r, true, fun w h => ?_⟩
          have hmb := h.mb
          obtain ⟨g, o, hg0, hg1, hg2, hg3⟩ := h.tab
          have hk := hg3 k (by omega)
          clear h
          go_enter Tryz.func250, Tryz.ntmps250
          go_wp2_with fail
          all_goals go_ret2
          all_goals exact ⟨rfl, rfl⟩
    · by_cases p2 : -22 ≤ e ∧ e < 0
      · obtain ⟨q1, q2⟩ := p2
        obtain ⟨k, hk0⟩ := nat_of' (-e) (by omega)
        obtain rfl : e = -(k : Int) := by omega
        have hnn : -(-(k : Int)) = k := by omega
        obtain ⟨r, hr⟩ := hD k (by omega)
        refine ⟨r, true, fun w h => ?_⟩
        have hmb := h.mb
        obtain ⟨g, o, hg0, hg1, hg2, hg3⟩ := h.tab
        have hk := hg3 k (by omega)
        clear h
        go_enter Tryz.func250, Tryz.ntmps250
        go_wp2_with fail
        all_goals go_ret2
        all_goals exact ⟨rfl, rfl⟩
      · by_cases p3 : 22 < e ∧ e ≤ 37
        · obtain ⟨q1, q2⟩ := p3
          obtain ⟨k, hk0⟩ := nat_of' (e - 22) (by omega)
          have hnn : e - 22 = (k : Int) := hk0
          obtain ⟨r, hr⟩ := hM k (by omega)
          cases c1 : ((FloatKind.f64.format.order r 4831355200913801216) == some Ordering.gt) with
          | true =>
            refine ⟨r, false, fun w h => ?_⟩
            have hmb := h.mb
            obtain ⟨g, o, hg0, hg1, hg2, hg3⟩ := h.tab
            have hk := hg3 k (by omega); have hk2 := hg3 22 (by omega)
            clear h
            go_enter Tryz.func250, Tryz.ntmps250
            go_wp2_with fail
            all_goals go_ret2
            all_goals exact ⟨rfl, rfl⟩
          | false =>
            cases c2 : ((FloatKind.f64.format.order r 14054727237768577024) == some Ordering.lt) with
            | true =>
              refine ⟨r, false, fun w h => ?_⟩
              have hmb := h.mb
              obtain ⟨g, o, hg0, hg1, hg2, hg3⟩ := h.tab
              have hk := hg3 k (by omega); have hk2 := hg3 22 (by omega)
              clear h
              go_enter Tryz.func250, Tryz.ntmps250
              go_wp2_with fail
              all_goals go_ret2
              all_goals exact ⟨rfl, rfl⟩
            | false =>
              obtain ⟨r2, hr2⟩ := hM2 k r (by omega) hr c1 c2
              refine ⟨r2, true, fun w h => ?_⟩
              have hmb := h.mb
              obtain ⟨g, o, hg0, hg1, hg2, hg3⟩ := h.tab
              have hk := hg3 k (by omega); have hk2 := hg3 22 (by omega)
              clear h
              go_enter Tryz.func250, Tryz.ntmps250
              go_wp2_with fail
              all_goals go_ret2
              all_goals exact ⟨rfl, rfl⟩
        · by_cases p4 : 0 < e
          · have p5 : 37 < e := by omega
            refine ⟨floatOfInt .f64 m, false, fun w h => ?_⟩
            have hmb := h.mb
            obtain ⟨g, o, hg0, hg1, hg2, hg3⟩ := h.tab
            clear h
            go_enter Tryz.func250, Tryz.ntmps250
            go_wp2_with fail
            all_goals go_ret2
            all_goals exact ⟨rfl, rfl⟩
          · have p5 : e < -22 := by omega
            refine ⟨floatOfInt .f64 m, false, fun w h => ?_⟩
            have hmb := h.mb
            obtain ⟨g, o, hg0, hg1, hg2, hg3⟩ := h.tab
            clear h
            go_enter Tryz.func250, Tryz.ntmps250
            go_wp2_with fail
            all_goals go_ret2
            all_goals exact ⟨rfl, rfl⟩
set_option maxHeartbeats 1000000 in
theorem exact_true (tab : Nat → Nat) (m e : Int) (hm0 : 0 ≤ m) (hm1 : m < 18446744073709551616) (hdv : (m / 4503599627370496 == 0) = true)
    (hM : ∀ k, k < 23 → ∃ r, FloatKind.f64.format.mul (Op.negFloat .f64 (floatOfInt .f64 m)) (tab k) = some r) (hD : ∀ k, k < 23 → ∃ r, FloatKind.f64.format.div (Op.negFloat .f64 (floatOfInt .f64 m)) (tab k) = some r)
    (hM2 : ∀ k r, k < 23 → FloatKind.f64.format.mul (Op.negFloat .f64 (floatOfInt .f64 m)) (tab k) = some r → ((FloatKind.f64.format.order r 4831355200913801216) == some Ordering.gt) = false → ((FloatKind.f64.format.order r 14054727237768577024) == some Ordering.lt) = false → ∃ r2, FloatKind.f64.format.mul r (tab 22) = some r2) :
    ∃ (f : Nat) (ok : Bool), ∀ w, FPow tab w → Calls Tryz.prog 250 #[.int .u64 m, .int .i64 e, .bool true] w fun r w' => r = .returned (.tuple #[.float .f64 f, .bool ok]) ∧ w' = w := by
  by_cases z : e = 0
  · subst z
    refine ⟨Op.negFloat .f64 (floatOfInt .f64 m), true, fun w h => ?_⟩
    have hmb := h.mb
    obtain ⟨g, o, hg0, hg1, hg2, hg3⟩ := h.tab
    clear h
    go_enter Tryz.func250, Tryz.ntmps250
    go_wp2_with fail
    all_goals go_ret2
    all_goals exact ⟨rfl, rfl⟩
  · by_cases p1 : 0 < e ∧ e ≤ 22
    · obtain ⟨q1, q2⟩ := p1
      obtain ⟨k, rfl⟩ := nat_of' e (by omega)
      obtain ⟨r, hr⟩ := hM k (by omega)
      cases c1 : ((FloatKind.f64.format.order (Op.negFloat .f64 (floatOfInt .f64 m)) 4831355200913801216) == some Ordering.gt) with
      | true =>
        refine ⟨Op.negFloat .f64 (floatOfInt .f64 m), false, fun w h => ?_⟩
        have hmb := h.mb
        obtain ⟨g, o, hg0, hg1, hg2, hg3⟩ := h.tab
        have hk := hg3 k (by omega)
        clear h
        go_enter Tryz.func250, Tryz.ntmps250
        go_wp2_with fail
        all_goals go_ret2
        all_goals exact ⟨rfl, rfl⟩
      | false =>
        cases c2 : ((FloatKind.f64.format.order (Op.negFloat .f64 (floatOfInt .f64 m)) 14054727237768577024) == some Ordering.lt) with
        | true =>
          refine ⟨Op.negFloat .f64 (floatOfInt .f64 m), false, fun w h => ?_⟩
          have hmb := h.mb
          obtain ⟨g, o, hg0, hg1, hg2, hg3⟩ := h.tab
          have hk := hg3 k (by omega)
          clear h
          go_enter Tryz.func250, Tryz.ntmps250
          go_wp2_with fail
          all_goals go_ret2
          all_goals exact ⟨rfl, rfl⟩
        | false =>
          refine ⟨r, true, fun w h => ?_⟩
          have hmb := h.mb
          obtain ⟨g, o, hg0, hg1, hg2, hg3⟩ := h.tab
          have hk := hg3 k (by omega)
          clear h
          go_enter Tryz.func250, Tryz.ntmps250
          go_wp2_with fail
          all_goals go_ret2
          all_goals exact ⟨rfl, rfl⟩
    · by_cases p2 : -22 ≤ e ∧ e < 0
      · obtain ⟨q1, q2⟩ := p2
        obtain ⟨k, hk0⟩ := nat_of' (-e) (by omega)
        obtain rfl : e = -(k : Int) := by omega
        have hnn : -(-(k : Int)) = k := by omega
        obtain ⟨r, hr⟩ := hD k (by omega)
        refine ⟨r, true, fun w h => ?_⟩
        have hmb := h.mb
        obtain ⟨g, o, hg0, hg1, hg2, hg3⟩ := h.tab
        have hk := hg3 k (by omega)
        clear h
        go_enter Tryz.func250, Tryz.ntmps250
        go_wp2_with fail
        all_goals go_ret2
        all_goals exact ⟨rfl, rfl⟩
      · by_cases p3 : 22 < e ∧ e ≤ 37
        · obtain ⟨q1, q2⟩ := p3
          obtain ⟨k, hk0⟩ := nat_of' (e - 22) (by omega)
          have hnn : e - 22 = (k : Int) := hk0
          obtain ⟨r, hr⟩ := hM k (by omega)
          cases c1 : ((FloatKind.f64.format.order r 4831355200913801216) == some Ordering.gt) with
          | true =>
            refine ⟨r, false, fun w h => ?_⟩
            have hmb := h.mb
            obtain ⟨g, o, hg0, hg1, hg2, hg3⟩ := h.tab
            have hk := hg3 k (by omega); have hk2 := hg3 22 (by omega)
            clear h
            go_enter Tryz.func250, Tryz.ntmps250
            go_wp2_with fail
            all_goals go_ret2
            all_goals exact ⟨rfl, rfl⟩
          | false =>
            cases c2 : ((FloatKind.f64.format.order r 14054727237768577024) == some Ordering.lt) with
            | true =>
              refine ⟨r, false, fun w h => ?_⟩
              have hmb := h.mb
              obtain ⟨g, o, hg0, hg1, hg2, hg3⟩ := h.tab
              have hk := hg3 k (by omega); have hk2 := hg3 22 (by omega)
              clear h
              go_enter Tryz.func250, Tryz.ntmps250
              go_wp2_with fail
              all_goals go_ret2
              all_goals exact ⟨rfl, rfl⟩
            | false =>
              obtain ⟨r2, hr2⟩ := hM2 k r (by omega) hr c1 c2
              refine ⟨r2, true, fun w h => ?_⟩
              have hmb := h.mb
              obtain ⟨g, o, hg0, hg1, hg2, hg3⟩ := h.tab
              have hk := hg3 k (by omega); have hk2 := hg3 22 (by omega)
              clear h
              go_enter Tryz.func250, Tryz.ntmps250
              go_wp2_with fail
              all_goals go_ret2
              all_goals exact ⟨rfl, rfl⟩
        · by_cases p4 : 0 < e
          · have p5 : 37 < e := by omega
            refine ⟨Op.negFloat .f64 (floatOfInt .f64 m), false, fun w h => ?_⟩
            have hmb := h.mb
            obtain ⟨g, o, hg0, hg1, hg2, hg3⟩ := h.tab
            clear h
            go_enter Tryz.func250, Tryz.ntmps250
            go_wp2_with fail
            all_goals go_ret2
            all_goals exact ⟨rfl, rfl⟩
          · have p5 : e < -22 := by omega
            refine ⟨Op.negFloat .f64 (floatOfInt .f64 m), false, fun w h => ?_⟩
            have hmb := h.mb
            obtain ⟨g, o, hg0, hg1, hg2, hg3⟩ := h.tab
            clear h
            go_enter Tryz.func250, Tryz.ntmps250
            go_wp2_with fail
            all_goals go_ret2
            all_goals exact ⟨rfl, rfl⟩
end Go.Proofs.YtnggkkdcddpjlaaGreatDoor
