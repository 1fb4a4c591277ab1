/- Loops told by their rounds: where a state that a loop's round turns comes to at last. -/
import Derived.Test.YtnggkkdcddpjlaaGreatDoorC0
namespace Go.Proofs.YtnggkkdcddpjlaaGreatDoor
open Go.RowKit
set_option linter.unusedVariables false
/-- 'step x = none': the loop is left at x. -/
inductive Ends {σ : Type} (step : σ → Option σ) : σ → σ → Prop
  | stop {x : σ} (h : step x = none) : Ends step x x
  | go {x y z : σ} (h : step x = some y) (k : Ends step y z) : Ends step x z
theorem Ends.next {σ : Type} {step : σ → Option σ} {x y z : σ} (h : Ends step x z) (hs : step x = some y) : Ends step y z := by
  cases h with
  | stop h => rw [h] at hs; cases hs
  | go h k => rw [h] at hs; cases hs; exact k
theorem Ends.done {σ : Type} {step : σ → Option σ} {x z : σ} (h : Ends step x z) (hs : step x = none) : z = x := by
  cases h with
  | stop h => rfl
  | go h k => rw [h] at hs; cases hs
theorem ends_some {σ : Type} {step : σ → Option σ} (I : σ → Prop) (μ : σ → Nat) (hp : ∀ x y, I x → step x = some y → I y ∧ μ y < μ x) : ∀ (n : Nat) (x : σ), μ x ≤ n → I x → ∃ z, Ends step x z ∧ I z ∧ step z = none
  | n, x, hn, hI => by
    cases hs : step x with
    | none => exact ⟨x, .stop hs, hI, hs⟩
    | some y =>
      obtain ⟨h1, h2⟩ := hp x y hI hs
      match n, hn with
      | 0, hn => omega
      | n + 1, hn =>
        obtain ⟨z, hz, h3, h4⟩ := ends_some I μ hp n y (by omega) h1
        exact ⟨z, .go hs hz, h3, h4⟩
/-- What the loop comes to within n rounds. -/
def runL {σ : Type} (step : σ → Option σ) : Nat → σ → σ
  | 0, x => x
  | n + 1, x => match step x with
    | none => x
    | some y => runL step n y
theorem runL_ends {σ : Type} {step : σ → Option σ} (I : σ → Prop) (μ : σ → Nat) (hp : ∀ x y, I x → step x = some y → I y ∧ μ y < μ x) : ∀ (n : Nat) (x : σ), μ x ≤ n → I x → Ends step x (runL step n x) ∧ I (runL step n x) ∧ step (runL step n x) = none
  | 0, x, hn, hI => by
    cases hs : step x with
    | none => exact ⟨.stop hs, hI, hs⟩
    | some y => have := (hp x y hI hs).2; omega
  | n + 1, x, hn, hI => by
    cases hs : step x with
    | none =>
      have e : runL step (n + 1) x = x := by unfold runL; rw [hs]
      rw [e]
      exact ⟨.stop hs, hI, hs⟩
    | some y =>
      obtain ⟨h1, h2⟩ := hp x y hI hs
      have e : runL step (n + 1) x = runL step n y := by rw [runL, hs]
      rw [e]
      obtain ⟨a, b, c⟩ := runL_ends I μ hp n y (by omega) h1
      exact ⟨.go hs a, b, c⟩
/-- A byte of a string. -/
def byt (s : ByteArray) (k : Nat) : Int := if h : k < s.size then ((s[k]'h).toNat : Int) else 0
theorem byt_at {s : ByteArray} {k : Nat} (h : k < s.size) : ((s[k]'h).toNat : Int) = byt s k := by unfold byt; rw [dif_pos h]
theorem byt_in (s : ByteArray) (k : Nat) : 0 ≤ byt s k ∧ byt s k ≤ 255 := by
  unfold byt
  split
  · rename_i h
    have := (s[k]'h).toNat_lt
    omega
  · omega
end Go.Proofs.YtnggkkdcddpjlaaGreatDoor
