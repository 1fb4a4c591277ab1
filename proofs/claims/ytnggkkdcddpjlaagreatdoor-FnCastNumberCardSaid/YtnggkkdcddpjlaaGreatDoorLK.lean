/- Maps from texts as lists of pairs, the plain laws: what a look-up gives behind a store; a map that is gathered from another, pair by pair in whatever order. -/
import Derived.Test.YtnggkkdcddpjlaaGreatDoorMP
namespace Go.Proofs.YtnggkkdcddpjlaaGreatDoor
open Go.RowKit
set_option linter.unusedVariables false
def lk2 (k : ByteArray) (l : Pairs) : Option Value := (lk k l).map (·.2)
theorem lkFrom_shift (k : ByteArray) : ∀ (l : Pairs) (i : Nat), lkFrom k i l = (lkFrom k 0 l).map fun p => (p.1 + i, p.2)
  | [], i => rfl
  | (k', v) :: l, i => by
    unfold lkFrom
    by_cases h : (k == k') = true
    · simp [h]
    · rw [if_neg h, if_neg h, lkFrom_shift k l (i + 1), lkFrom_shift k l (0 + 1)]
      cases lkFrom k 0 l with
      | none => rfl
      | some q => simp; omega
theorem lk_cons (k k' : ByteArray) (v : Value) (l : Pairs) : lk k ((k', v) :: l) = if k = k' then some (0, v) else (lk k l).map fun p => (p.1 + 1, p.2) := by
  show lkFrom k 0 ((k', v) :: l) = if k = k' then some (0, v) else (lkFrom k 0 l).map fun p => (p.1 + 1, p.2)
  rw [lkFrom]
  by_cases h : k = k'
  · rw [if_pos ((MapKept.bytes_beq k k').2 h), if_pos h]
  · rw [if_neg (fun e => h ((MapKept.bytes_beq k k').1 e)), if_neg h, lkFrom_shift k l (0 + 1)]
theorem lk2_cons (k k' : ByteArray) (v : Value) (l : Pairs) : lk2 k ((k', v) :: l) = if k = k' then some v else lk2 k l := by
  unfold lk2
  rw [lk_cons]
  by_cases h : k = k'
  · simp [h]
  · rw [if_neg h, if_neg h]
    cases lk k l <;> rfl
theorem upd_cons (k k' : ByteArray) (v v' : Value) (l : Pairs) : upd ((k', v') :: l) k v = if k = k' then (k, v) :: l else (k', v') :: upd l k v := by
  unfold upd
  rw [lk_cons]
  by_cases h : k = k'
  · rw [if_pos h, if_pos h]; rfl
  · rw [if_neg h, if_neg h]
    cases lk k l <;> rfl
theorem lk2_upd (k k' : ByteArray) (v : Value) : ∀ l : Pairs, lk2 k' (upd l k v) = if k' = k then some v else lk2 k' l
  | [] => by
    show lk2 k' [(k, v)] = _
    rw [lk2_cons]
  | (k1, v1) :: l => by
    rw [upd_cons]
    by_cases h : k = k1
    · subst h
      rw [if_pos rfl, lk2_cons, lk2_cons]
      by_cases h2 : k' = k
      · rw [if_pos h2, if_pos h2]
      · rw [if_neg h2, if_neg h2, if_neg h2]
    · rw [if_neg h, lk2_cons, lk2_upd k k' v l, lk2_cons]
      by_cases h2 : k' = k1
      · rw [if_pos h2, if_pos h2, if_neg (fun e => h (e.symm.trans h2))]
      · rw [if_neg h2, if_neg h2]
theorem lk_upd_isSome (k k' : ByteArray) (v : Value) (l : Pairs) : (lk2 k' (upd l k v)).isSome = (decide (k' = k) || (lk2 k' l).isSome) := by
  rw [lk2_upd]
  by_cases h : k' = k <;> simp [h]
theorem upd_length (k : ByteArray) (v : Value) (l : Pairs) : (upd l k v).length = l.length + if (lk2 k l).isSome then 0 else 1 := by
  unfold upd lk2
  cases lk k l <;> simp
/-- No key comes twice. -/
def Dis (l : Pairs) : Prop := ∀ j p, l[j]? = some p → lk p.1 l = some (j, p.2)
theorem dis_nil : Dis [] := fun j p h => by simp at h
theorem dis_cons {k : ByteArray} {v : Value} {l : Pairs} (h : Dis l) (hk : lk2 k l = none) : Dis ((k, v) :: l) := by
  intro j p hj
  rw [lk_cons]
  cases j with
  | zero =>
    simp only [List.getElem?_cons_zero, Option.some.injEq] at hj
    subst hj
    simp
  | succ j =>
    simp only [List.getElem?_cons_succ] at hj
    have h1 := h j p hj
    have hne : p.1 ≠ k := fun e => by
      rw [← e] at hk
      unfold lk2 at hk
      rw [h1] at hk
      cases hk
    rw [if_neg hne, h1]
    rfl
theorem dis_tail {k : ByteArray} {v : Value} {l : Pairs} (h : Dis ((k, v) :: l)) : Dis l ∧ lk2 k l = none := by
  refine ⟨fun j p hj => ?_, ?_⟩
  · have h1 := h (j + 1) p (by simpa using hj)
    rw [lk_cons] at h1
    by_cases hk : p.1 = k
    · rw [if_pos hk] at h1
      simp at h1
    · rw [if_neg hk] at h1
      cases hl : lk p.1 l with
      | none => rw [hl] at h1; cases h1
      | some q =>
        rw [hl] at h1
        simp only [Option.map_some, Option.some.injEq, Prod.mk.injEq] at h1
        obtain ⟨h2, h3⟩ := h1
        rw [show q = (j, p.2) from Prod.ext (by omega) h3]
  · unfold lk2
    cases hl : lk k l with
    | none => rfl
    | some q =>
      obtain ⟨i, v'⟩ := q
      have h1 := h (i + 1) (k, v') (by simpa using lk_at hl)
      rw [lk_cons, if_pos rfl] at h1
      simp at h1
theorem dis_upd (k : ByteArray) (v : Value) : ∀ {l : Pairs}, Dis l → Dis (upd l k v)
  | [], h => dis_cons dis_nil rfl
  | (k1, v1) :: l, h => by
    obtain ⟨h1, h2⟩ := dis_tail h
    rw [upd_cons]
    by_cases hk : k = k1
    · subst hk
      rw [if_pos rfl]
      exact dis_cons h1 h2
    · rw [if_neg hk]
      refine dis_cons (dis_upd k v h1) ?_
      rw [lk2_upd, if_neg (fun e => hk e.symm)]
      exact h2
/-- What of l's pairs, of the places 'seen', has been gathered into m, each value by f. -/
structure Gath (l : Pairs) (f : Value → Value) (seen : Array Nat) (m : Pairs) : Prop where
  len : m.length = seen.size
  nodup : seen.toList.Nodup
  lt : ∀ j, seen.contains j = true → j < l.length
  look : ∀ k, lk2 k m = match lk k l with | some (j, v) => if seen.contains j = true then some (f v) else none | none => none
theorem gath_start (l : Pairs) (f : Value → Value) : Gath l f #[] [] :=
  ⟨rfl, List.nodup_nil, fun j h => by simp at h, fun k => by
    show none = _
    cases lk k l with
    | none => rfl
    | some q => obtain ⟨i, v⟩ := q; simp⟩
theorem gath_step {l : Pairs} {f : Value → Value} {seen : Array Nat} {m : Pairs} (hd : Dis l) (h : Gath l f seen m) {j : Nat} {p : ByteArray × Value} (hj : l[j]? = some p) (hs : seen.contains j = false) :
    Gath l f (seen.push j) (upd m p.1 (f p.2)) := by
  have hlk := hd j p hj
  have hnone : lk2 p.1 m = none := by
    rw [h.look, hlk]
    simp only [hs]
    rfl
  have hmem : ∀ i, (seen.push j).contains i = (seen.contains i || i == j) := fun i => by rw [Bool.eq_iff_iff]; simp
  refine ⟨by rw [upd_length, hnone, h.len]; simp, ?_, fun i hi => ?_, fun k => ?_⟩
  · rw [Array.toList_push]
    refine List.nodup_append.2 ⟨h.nodup, by simp, fun a ha b hb => ?_⟩
    simp only [List.mem_singleton] at hb
    subst hb
    intro e
    subst e
    have : seen.contains a = true := by simpa using ha
    rw [this] at hs
    cases hs
  · rw [hmem] at hi
    simp only [Bool.or_eq_true] at hi
    rcases hi with hi | hi
    · exact h.lt i hi
    · have : i = j := by simpa using hi
      subst this
      exact (List.getElem?_eq_some_iff.1 hj).1
  · rw [lk2_upd]
    by_cases hk : k = p.1
    · subst hk
      rw [if_pos rfl, hlk]
      simp
    · rw [if_neg hk, h.look]
      cases hl : lk k l with
      | none => rfl
      | some q =>
        obtain ⟨i, v⟩ := q
        have hne : i ≠ j := fun e => by
          subst e
          have h1 := lk_at hl
          rw [hj] at h1
          exact hk (by cases h1; rfl)
        have : ((i == j) : Bool) = false := by simpa using hne
        simp only [hmem, this, Bool.or_false]
theorem gath_end {l : Pairs} {f : Value → Value} {seen : Array Nat} {m : Pairs} (h : Gath l f seen m) (hall : ∀ j, j < l.length → seen.contains j = true) :
    m.length = l.length ∧ ∀ k, lk2 k m = (lk2 k l).map f := by
  refine ⟨?_, fun k => ?_⟩
  · rw [h.len]
    have hp : seen.toList.Perm (List.range l.length) := by
      refine (List.perm_ext_iff_of_nodup h.nodup List.nodup_range).2 fun a => ?_
      rw [List.mem_range]
      exact ⟨fun ha => h.lt a (by simpa using ha), fun ha => by simpa using hall a ha⟩
    have := hp.length_eq
    simpa using this
  · rw [h.look]
    unfold lk2
    cases hl : lk k l with
    | none => rfl
    | some q =>
      obtain ⟨i, v⟩ := q
      have h1 := lk_at hl
      have h2 := hall i (List.getElem?_eq_some_iff.1 h1).1
      show (if seen.contains i = true then some (f v) else none) = _
      rw [if_pos h2]
      rfl
end Go.Proofs.YtnggkkdcddpjlaaGreatDoor
