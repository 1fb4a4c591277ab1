/- A scope out of which the run jumps forward to labels, so many times at most. -/
import Derived.Test.YtnggkkdcddpjlaaGreatDoorC0
import Derived.WalkMore
namespace Go.Proofs.YtnggkkdcddpjlaaGreatDoor
open Go Go.RowKit
set_option linter.unusedVariables false
/-- As Q; by a goto: what stands behind the label, n times at most. -/
def scopedQ (P : Program) (c : Code) (Q : Exit → Act → World → Prop) : Nat → Exit → Act → World → Prop
  | 0, .goto _, _, _ => False
  | n + 1, .goto l, a, w => ∃ rest, findLabel c l = some rest ∧ rest.wp P (scopedQ P c Q n) a w
  | _, e, a, w => Q e a w
theorem scopedQ_normal {P : Program} {c : Code} {Q : Exit → Act → World → Prop} (n : Nat) (a : Act) (w : World) : scopedQ P c Q n .normal a w = Q .normal a w := by cases n <;> rfl
theorem scopedQ_exit {P : Program} {c : Code} {Q : Exit → Act → World → Prop} (n i : Nat) (a : Act) (w : World) : scopedQ P c Q n (.exit i) a w = Q (.exit i) a w := by cases n <;> rfl
theorem scopedQ_ret {P : Program} {c : Code} {Q : Exit → Act → World → Prop} (n : Nat) (a : Act) (w : World) : scopedQ P c Q n .ret a w = Q .ret a w := by cases n <;> rfl
theorem scopedQ_panic {P : Program} {c : Code} {Q : Exit → Act → World → Prop} (n : Nat) (ch : List PanicEntry) (a : Act) (w : World) : scopedQ P c Q n (.panic ch) a w = Q (.panic ch) a w := by cases n <;> rfl
theorem scopedQ_out {P : Program} {c : Code} {Q : Exit → Act → World → Prop} (n : Nat) (a : Act) (w : World) : scopedQ P c Q n .outgrown a w = Q .outgrown a w := by cases n <;> rfl
theorem scoped_key {P : Program} {c : Code} {Q : Exit → Act → World → Prop} (b : Frame) (k : List Item) (cs : List Frame) : ∀ (n : Nat) (code : Code) (a : Act) (w : World), code.wp P (scopedQ P c Q n) a w →
    ∃ e a' w', Q e a' w' ∧ Arrives P (lone (b.at a (.code code :: .inScope c :: k)) cs w) b k cs e a' w' := by
  intro n
  induction n with
  | zero =>
    intro code a w h
    obtain ⟨e, a₁, w₁, hq, harr⟩ := h b (.inScope c :: k) cs
    cases e with
    | normal => exact ⟨.normal, a₁, w₁, hq, Steps.trans harr (.one step_inScope)⟩
    | exit id => exact ⟨.exit id, a₁, w₁, hq, fun k' hk => harr k' (by simp [exitTo, hk])⟩
    | goto l => exact False.elim hq
    | ret => exact ⟨_, a₁, w₁, hq, harr⟩
    | panic ch => exact ⟨_, a₁, w₁, hq, harr⟩
    | outgrown => exact ⟨_, a₁, w₁, hq, harr⟩
  | succ n ih =>
    intro code a w h
    obtain ⟨e, a₁, w₁, hq, harr⟩ := h b (.inScope c :: k) cs
    cases e with
    | normal => exact ⟨.normal, a₁, w₁, hq, Steps.trans harr (.one step_inScope)⟩
    | exit id => exact ⟨.exit id, a₁, w₁, hq, fun k' hk => harr k' (by simp [exitTo, hk])⟩
    | goto l =>
      obtain ⟨rest, hf, hr⟩ := hq
      obtain ⟨e₂, a₂, w₂, hq₂, harr₂⟩ := ih rest a₁ w₁ hr
      have hg : gotoIn l (.inScope c :: k) = some (.code rest :: .inScope c :: k) := by simp [gotoIn, hf]
      exact ⟨e₂, a₂, w₂, hq₂, .of_steps (harr _ hg) harr₂⟩
    | ret => exact ⟨_, a₁, w₁, hq, harr⟩
    | panic ch => exact ⟨_, a₁, w₁, hq, harr⟩
    | outgrown => exact ⟨_, a₁, w₁, hq, harr⟩
theorem wp_scope_some {P : Program} {c : Code} {Q : Exit → Act → World → Prop} {a : Act} {w : World} (n : Nat) (h : c.wp P (scopedQ P c Q n) a w) : (Code.scope c).wp P Q a w := by
  intro b k cs
  obtain ⟨e, a₁, w₁, hq, harr⟩ := scoped_key b k cs n c a w h
  refine ⟨e, a₁, w₁, hq, ?_⟩
  exact .of_steps (.one step_scope) harr
/-- The same with what follows behind a name. -/
theorem wp_scope_name {P : Program} {c : Code} {Q : Exit → Act → World → Prop} {a : Act} {w : World} (n : Nat)
    (h : ∀ K : Exit → Act → World → Prop, Hid (K = scopedQ P c Q n) → c.wp P K a w) : (Code.scope c).wp P Q a w :=
  wp_scope_some n (h _ (Lib.hid rfl))
/-- A jump: on behind the label, one jump fewer left. -/
theorem scoped_jump {P : Program} {c : Code} {Q K : Exit → Act → World → Prop} {n l : Nat} {a : Act} {w : World} (hK : Hid (K = scopedQ P c Q (n + 1))) (rest : Code) (hf : findLabel c l = some rest)
    (h : ∀ K' : Exit → Act → World → Prop, Hid (K' = scopedQ P c Q n) → rest.wp P K' a w) : K (.goto l) a w := by
  rw [hK.out]
  exact ⟨rest, hf, h _ (Lib.hid rfl)⟩
theorem scoped_ret {P : Program} {c : Code} {Q K : Exit → Act → World → Prop} {n : Nat} {a : Act} {w : World} (hK : Hid (K = scopedQ P c Q n)) (h : Q .ret a w) : K .ret a w := by
  rw [hK.out, scopedQ_ret]
  exact h
end Go.Proofs.YtnggkkdcddpjlaaGreatDoor
