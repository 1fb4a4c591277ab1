/- The cheat sheet of the left shift: what its rows say. -/
import Derived.Test.YtnggkkdcddpjlaaGreatDoorH4
import GoSem.PinnedTables
namespace Go.Proofs.YtnggkkdcddpjlaaGreatDoor
open Go.RowKit
set_option maxRecDepth 100000
set_option linter.unusedVariables false
def chRow (k : Nat) : Nat × List UInt8 := Pinned.cheatRows.getD k (0, [])
def chD (k : Nat) : Nat := (chRow k).1
def chS (k : Nat) : ByteArray := ⟨(chRow k).2.toArray⟩
def chL (k : Nat) : Nat := (chS k).size
def chC (k : Nat) : Nat → Int := byt (chS k)
def cheatB (k : Nat) : Bool :=
  decide (0 < chD k) && decide (0 < chL k) && decide (k + 1 = chD k + chL k) && (List.range (chL k)).all (fun i => decide (48 ≤ chC k i) && decide (chC k i ≤ 57)) && decide (chC k (chL k - 1) ≠ 48) && decide (p10 (chD k - 1) ≤ p2 k) && decide (p2 k < p10 (chD k)) && decide (p2 k * pv (val (chC k) (chL k)) (chL k) = p10 k) && decide (chL k ≤ 100) && decide (chD k ≤ 20)
theorem cheat_of {k : Nat} (h : cheatB k = true) : Cheat k (p2 k) (chD k) (chL k) (chC k) ∧ chL k ≤ 100 ∧ chD k ≤ 20 := by
  simp only [cheatB, Bool.and_eq_true, decide_eq_true_eq, List.all_eq_true, List.mem_range] at h
  obtain ⟨⟨⟨⟨⟨⟨⟨⟨⟨h1, h2⟩, h3⟩, h4⟩, h5⟩, h6⟩, h7⟩, h8⟩, h9⟩, h10⟩ := h
  exact ⟨⟨h1, h2, h3, fun i hi => h4 i hi, h5, h6, h7, h8⟩, h9, h10⟩
theorem cheat_all : ks12.all cheatB = true := by decide
theorem cheat_at {k : Nat} (h : k ∈ ks12) : Cheat k (p2 k) (chD k) (chL k) (chC k) ∧ chL k ≤ 100 ∧ chD k ≤ 20 := cheat_of (List.all_eq_true.1 cheat_all k h)
theorem sheet : Sheet chD chL chC ks12 := ⟨fun k h => (cheat_at h).1⟩
theorem chD_1 : chD 1 = 1 := by decide
theorem chD_3 : chD 3 = 1 := by decide
theorem chD_lo : ∀ k, k ∈ ks12 → k ≤ 27 → 4 ≤ k → 2 ≤ chD k := by decide
theorem chD_hi : ∀ k, k ∈ ks12 → k ≤ 27 → chD k ≤ 9 := by decide
end Go.Proofs.YtnggkkdcddpjlaaGreatDoor
