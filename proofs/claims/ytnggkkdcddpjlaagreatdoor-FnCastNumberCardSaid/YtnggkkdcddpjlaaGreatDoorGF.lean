/- Floats: products and quotients that are no nan. -/
import Derived.Laws.FloatArith
namespace Go.Proofs.YtnggkkdcddpjlaaGreatDoor
open Ieee
set_option linter.unusedVariables false
/-- A word that stands for a number or an infinity. -/
def NoNan (k : FloatKind) (x : Nat) : Prop := (k.format.read x).isNaN = false
theorem fmt_facts : ∀ k : FloatKind, k.format.infRung < k.format.signWeight ∧ 0 < k.format.binade := fun k => by
  cases k <;> decide
theorem read_rung (k : FloatKind) (s : Bool) (r : Nat) (h : r ≤ k.format.infRung) : NoNan k (k.format.word s r) := by
  obtain ⟨h1, h2⟩ := fmt_facts k
  unfold NoNan Format.read Format.word
  generalize k.format.signWeight = W at *
  generalize k.format.binade = B at *
  generalize k.format.infRung = I at *
  have e : (if s = true then W + r else r) % W = r := by
    cases s
    · simp only [Bool.false_eq_true, if_false]
      exact Nat.mod_eq_of_lt (by omega)
    · simp only [if_true]
      rw [Nat.add_mod_left]
      exact Nat.mod_eq_of_lt (by omega)
  rw [e]
  dsimp only
  split
  · rfl
  · split
    · rfl
    · rw [if_pos (show r = I by omega)]
      rfl
theorem near_nn (k : FloatKind) (s : Bool) (m : Nat) (e : Int) : NoNan k (k.format.nearest s m e) := by
  unfold Format.nearest
  split
  · exact read_rung k s 0 (Nat.zero_le _)
  · exact read_rung k s _ (Nat.min_le_right _ _)
theorem write_nn (k : FloatKind) (d : Datum) (h : d.isNaN = false) : NoNan k (k.format.write d) := by
  cases d with
  | number s m e => exact near_nn k s m e
  | infinity s => exact read_rung k s _ (Nat.le_refl _)
  | nan s t => cases h
theorem ofInt_nn (k : FloatKind) (m : Int) : NoNan k (floatOfInt k m) := near_nn k _ _ _
/-- A word that stands for a number that is not nought. -/
def NotNought (k : FloatKind) (x : Nat) : Prop := ∃ s m e, k.format.read x = .number s m e ∧ m ≠ 0
theorem mul_some (k : FloatKind) (x y : Nat) (hx : NoNan k x) (hy : NotNought k y) : ∃ r, k.format.mul x y = some r ∧ NoNan k r := by
  obtain ⟨s, m, e, hy, hm⟩ := hy
  unfold NoNan at hx
  unfold Format.mul
  rw [hy]
  cases h : k.format.read x with
  | number t n j => exact ⟨_, rfl, write_nn k _ rfl⟩
  | infinity t =>
    refine ⟨k.format.write (.infinity (t ^^ s)), ?_, write_nn k _ rfl⟩
    simp [Datum.product, hm]
  | nan t f => rw [h] at hx; cases hx
theorem div_some (k : FloatKind) (x y : Nat) (hx : NoNan k x) (hy : NotNought k y) : ∃ r, k.format.div x y = some r ∧ NoNan k r := by
  obtain ⟨s, m, e, hy, hm⟩ := hy
  unfold NoNan at hx
  unfold Format.div
  rw [hy]
  cases h : k.format.read x with
  | number t n j =>
    simp only [Datum.quotient, if_neg hm, Option.map_some]
    exact ⟨_, rfl, write_nn k _ rfl⟩
  | infinity t => exact ⟨_, rfl, write_nn k _ rfl⟩
  | nan t f => rw [h] at hx; cases hx
theorem rung_nn (k : FloatKind) (x : Nat) (h : x % k.format.signWeight ≤ k.format.infRung) : NoNan k x := by
  unfold NoNan Format.read
  dsimp only
  split
  · rfl
  · split
    · rfl
    · rw [if_pos (by omega)]
      rfl
theorem nn_rung (k : FloatKind) (x : Nat) (h : NoNan k x) : x % k.format.signWeight ≤ k.format.infRung := by
  unfold NoNan Format.read at h
  dsimp only at h
  obtain ⟨h1, h2⟩ := fmt_facts k
  split at h
  · have h3 : k.format.binade ≤ k.format.infRung := by cases k <;> decide
    omega
  · split at h
    · omega
    · split at h
      · omega
      · cases h
theorem neg_nn (k : FloatKind) (x : Nat) (h : NoNan k x) : NoNan k (Op.negFloat k x) := by
  refine rung_nn k _ ?_
  have h1 := nn_rung k x h
  unfold Op.negFloat
  unfold Format.signWeight at *
  rw [Nat.xor_mod_two_pow, Nat.mod_self, Nat.xor_zero]
  exact h1
end Go.Proofs.YtnggkkdcddpjlaaGreatDoor
