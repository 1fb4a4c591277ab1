/- Products and quotients of floats that are no nan are told, and are no nan; internal/strconv.atof64exact at a mantissa too great for it answers false. -/
import Derived.Laws.FloatArith
import Derived.Test.YtnggkkdcddpjlaaGreatDoorZ02
namespace Go.Proofs.YtnggkkdcddpjlaaGreatDoor
open Ieee
set_option linter.unusedVariables false
/-- A word that stands for a number or an infinity. -/
def NoNan (k : FloatKind) (x : Nat) : Prop := (k.format.read x).isNaN = false
theorem fmt_facts : ∀ k : FloatKind, k.format.infRung < k.format.signWeight ∧ 0 < k.format.binade := fun k => by
  cases k <;> decide
theorem read_rung (k : FloatKind) (s : Bool) (r : Nat) (h : r ≤ k.format.infRung) : NoNan k (k.format.word s r) := by
  obtain ⟨h1, h2⟩ := fmt_facts k
  unfold NoNan Format.read Format.word
  generalize k.format.signWeight = W at *
  generalize k.format.binade = B at *
  generalize k.format.infRung = I at *
  have e : (if s = true then W + r else r) % W = r := by
    cases s
    · simp only [Bool.false_eq_true, if_false]
      exact Nat.mod_eq_of_lt (by omega)
    · simp only [if_true]
      rw [Nat.add_mod_left]
      exact Nat.mod_eq_of_lt (by omega)
  rw [e]
  dsimp only
  split
  · rfl
  · split
    · rfl
    · rw [if_pos (show r = I by omega)]
      rfl
theorem near_nn (k : FloatKind) (s : Bool) (m : Nat) (e : Int) : NoNan k (k.format.nearest s m e) := by
  unfold Format.nearest
  split
  · exact read_rung k s 0 (Nat.zero_le _)
  · exact read_rung k s _ (Nat.min_le_right _ _)
theorem write_nn (k : FloatKind) (d : Datum) (h : d.isNaN = false) : NoNan k (k.format.write d) := by
  cases d with
  | number s m e => exact near_nn k s m e
  | infinity s => exact read_rung k s _ (Nat.le_refl _)
  | nan s t => cases h
theorem ofInt_nn (k : FloatKind) (m : Int) : NoNan k (floatOfInt k m) := near_nn k _ _ _
/-- A word that stands for a number that is not nought. -/
def NotNought (k : FloatKind) (x : Nat) : Prop := ∃ s m e, k.format.read x = .number s m e ∧ m ≠ 0
theorem mul_some (k : FloatKind) (x y : Nat) (hx : NoNan k x) (hy : NotNought k y) : ∃ r, k.format.mul x y = some r ∧ NoNan k r := by
  obtain ⟨s, m, e, hy, hm⟩ := hy
  unfold NoNan at hx
  unfold Format.mul
  rw [hy]
  cases h : k.format.read x with
  | number t n j => exact ⟨_, rfl, write_nn k _ rfl⟩
  | infinity t =>
    refine ⟨k.format.write (.infinity (t ^^ s)), ?_, write_nn k _ rfl⟩
    simp [Datum.product, hm]
  | nan t f => rw [h] at hx; cases hx
theorem div_some (k : FloatKind) (x y : Nat) (hx : NoNan k x) (hy : NotNought k y) : ∃ r, k.format.div x y = some r ∧ NoNan k r := by
  obtain ⟨s, m, e, hy, hm⟩ := hy
  unfold NoNan at hx
  unfold Format.div
  rw [hy]
  cases h : k.format.read x with
  | number t n j =>
    simp only [Datum.quotient, if_neg hm, Option.map_some]
    exact ⟨_, rfl, write_nn k _ rfl⟩
  | infinity t => exact ⟨_, rfl, write_nn k _ rfl⟩
  | nan t f => rw [h] at hx; cases hx
theorem rung_nn (k : FloatKind) (x : Nat) (h : x % k.format.signWeight ≤ k.format.infRung) : NoNan k x := by
  unfold NoNan Format.read
  dsimp only
  split
  · rfl
  · split
    · rfl
    · rw [if_pos (by omega)]
      rfl
theorem nn_rung (k : FloatKind) (x : Nat) (h : NoNan k x) : x % k.format.signWeight ≤ k.format.infRung := by
  unfold NoNan Format.read at h
  dsimp only at h
  obtain ⟨h1, h2⟩ := fmt_facts k
  split at h
  · have h3 : k.format.binade ≤ k.format.infRung := by cases k <;> decide
    omega
  · split at h
    · omega
    · split at h
      · omega
      · cases h
theorem neg_nn (k : FloatKind) (x : Nat) (h : NoNan k x) : NoNan k (Op.negFloat k x) := by
  refine rung_nn k _ ?_
  have h1 := nn_rung k x h
  unfold Op.negFloat
  unfold Format.signWeight at *
  rw [Nat.xor_mod_two_pow, Nat.mod_self, Nat.xor_zero]
  exact h1
end Go.Proofs.YtnggkkdcddpjlaaGreatDoor
namespace Go.Proofs.YtnggkkdcddpjlaaGreatDoor
open Go.RowKit
set_option maxRecDepth 100000
set_option linter.unusedVariables false
set_option linter.unusedSimpArgs false
/-- The float's format and the table of powers, in the world. -/
structure FPow (tab : Nat → Nat) (w : World) : Prop where
  mb : w.cell? ⟨6, 0, none⟩ = some (.int .u64 52)
  tab : ∃ g o, 13 < w.heap.size ∧ g < w.heap.size ∧ w.cell? ⟨13, 0, none⟩ = some (.slice (some ⟨g, o, none⟩) 23 23) ∧ ∀ i, i < 23 → w.cell? ⟨g, o + i, none⟩ = some (.float .f64 (tab i))
@[go_sem] theorem binOp_fmul (t : TypeId) (k : FloatKind) (a b r : Nat) (h : k.format.mul a b = some r) : binOp .mul t (.float k a) (.float k b) = pure (.float k r) := by simp [binOp, Op.floatArith, h]
@[go_sem] theorem binOp_fquo (t : TypeId) (k : FloatKind) (a b r : Nat) (h : k.format.div a b = some r) : binOp .quo t (.float k a) (.float k b) = pure (.float k r) := by simp [binOp, Op.floatArith, h]
@[go_sem] theorem unOp_fneg (k : FloatKind) (a : Nat) : Op.unary .neg (.float k a) = pure (.float k (Op.negFloat k a)) := rfl
theorem nat_of' (x : Int) (h : 0 ≤ x) : ∃ n : Nat, x = n := ⟨x.toNat, by omega⟩
end Go.Proofs.YtnggkkdcddpjlaaGreatDoor
namespace Go.Proofs.YtnggkkdcddpjlaaGreatDoor
open Go.RowKit
set_option maxRecDepth 100000
set_option linter.unusedVariables false
set_option linter.unusedSimpArgs false
/-- The powers of ten as floats of 64 bits. -/
def fpList : List Nat := [4607182418800017408, 4621819117588971520, 4636737291354636288, 4652007308841189376, 4666723172467343360, 4681608360884174848, 4696837146684686336, 4711630319722168320, 4726483295884279808, 4741671816366391296, 4756540486875873280, 4771362005757984768, 4786511204640096256, 4801453603149578240, 4816244402031689728, 4831355200913801216, 4846369599423283200, 4861130398305394688, 4876203697187506176, 4891288408196988160, 4906019910204099648, 4921056587992461136, 4936209963552724370]
def fpTab (k : Nat) : Nat := fpList.getD k 0
theorem exact_big (m e : Int) (ng : Bool) (hm0 : 0 ≤ m) (hm1 : m < 18446744073709551616) (hdv : (m / 4503599627370496 == 0) = false) (tab : Nat → Nat) (w : World) (h : FPow tab w) :
    Calls Tryz.prog 250 #[.int .u64 m, .int .i64 e, .bool ng] w fun r w' => r = .returned (.tuple #[.float .f64 0, .bool false]) ∧ w' = w := by
  have hmb := h.mb
  clear h
  go_enter Tryz.func250, Tryz.ntmps250
  go_wp2_with fail
  all_goals go_ret2
  all_goals exact ⟨rfl, rfl⟩
end Go.Proofs.YtnggkkdcddpjlaaGreatDoor
