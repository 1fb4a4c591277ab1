/- Maps from texts, told as lists of pairs in the order in which the keys came: what a store, a look-up, len and a step of a range do. -/
import Derived.Test.YtnggkkdcddpjlaaGreatDoorC0
import Derived.Laws.IdiomRangeMap
import Derived.MapKept
namespace Go.Proofs.YtnggkkdcddpjlaaGreatDoor
open Go.RowKit
set_option linter.unusedVariables false
set_option linter.unusedSimpArgs false
abbrev Pairs := List (ByteArray × Value)
def entsFrom : Nat → Pairs → List MapEntry
  | _, [] => []
  | i, (k, v) :: l => { key := .string k, val := v, born := i } :: entsFrom (i + 1) l
def ents (l : Pairs) : Array MapEntry := (entsFrom 0 l).toArray
/-- A map that has come by its pairs one by one. -/
def mobj (l : Pairs) : Obj := .map (ents l) l.length
/-- The first pair of a key, and its place. -/
def lkFrom (k : ByteArray) : Nat → Pairs → Option (Nat × Value)
  | _, [] => none
  | i, (k', v) :: l => if k == k' then some (i, v) else lkFrom k (i + 1) l
def lk (k : ByteArray) (l : Pairs) : Option (Nat × Value) := lkFrom k 0 l
/-- A store. -/
def upd (l : Pairs) (k : ByteArray) (v : Value) : Pairs := match lk k l with | some (i, _) => l.set i (k, v) | none => l ++ [(k, v)]
def setO (w : World) (r : Nat) (o : Obj) : World := { w with heap := w.heap.setIfInBounds r o }

theorem entsFrom_length : ∀ (l : Pairs) (i : Nat), (entsFrom i l).length = l.length
  | [], _ => rfl
  | (k, v) :: l, i => by simp [entsFrom, entsFrom_length l (i + 1)]
theorem ents_size (l : Pairs) : (ents l).size = l.length := entsFrom_length l 0
theorem entsFrom_get : ∀ (l : Pairs) (i j : Nat), (entsFrom i l)[j]? = (l[j]?).map fun p => { key := .string p.1, val := p.2, born := i + j }
  | [], i, j => by simp [entsFrom]
  | (k, v) :: l, i, 0 => by simp [entsFrom]
  | (k, v) :: l, i, j + 1 => by
    simp only [entsFrom, List.getElem?_cons_succ]
    rw [entsFrom_get l (i + 1) j, show i + 1 + j = i + (j + 1) by omega]
theorem ents_get (l : Pairs) (j : Nat) : (ents l)[j]? = (l[j]?).map fun p => { key := .string p.1, val := p.2, born := j } := by
  have := entsFrom_get l 0 j
  simpa [ents] using this
theorem find_ents (k : ByteArray) : ∀ (l : Pairs) (i j : Nat), Instr.findNow .string (.string k) (entsFrom i l) j = some (lkFrom k j l)
  | [], i, j => rfl
  | (k', v) :: l, i, j => by
    simp only [entsFrom, Instr.findNow, Instr.sameNow, lkFrom]
    cases h : (k == k') with
    | true => simp
    | false => simpa using find_ents k l (i + 1) (j + 1)
theorem lkFrom_at (k : ByteArray) : ∀ (l : Pairs) (i : Nat) {p : Nat} {v : Value}, lkFrom k i l = some (p, v) → i ≤ p ∧ l[p - i]? = some (k, v)
  | [], i, p, v, h => by simp [lkFrom] at h
  | (k', v') :: l, i, p, v, h => by
    unfold lkFrom at h
    by_cases hk : (k == k') = true
    · rw [if_pos hk] at h
      simp only [Option.some.injEq, Prod.mk.injEq] at h
      obtain ⟨rfl, rfl⟩ := h
      have hk' := (MapKept.bytes_beq k k').1 hk
      subst hk'
      exact ⟨Nat.le_refl _, by simp⟩
    · rw [if_neg hk] at h
      obtain ⟨h1, h2⟩ := lkFrom_at k l (i + 1) h
      refine ⟨by omega, ?_⟩
      rw [show p - i = (p - (i + 1)) + 1 by omega]
      simpa using h2
theorem lk_at {k : ByteArray} {l : Pairs} {p : Nat} {v : Value} (h : lk k l = some (p, v)) : l[p]? = some (k, v) := by
  simpa using (lkFrom_at k l 0 h).2
theorem lkFrom_none (k : ByteArray) : ∀ (l : Pairs) (i : Nat), lkFrom k i l = none ↔ ∀ p ∈ l, p.1 ≠ k
  | [], i => by simp [lkFrom]
  | (k', v') :: l, i => by
    unfold lkFrom
    by_cases hk : (k == k') = true
    · rw [if_pos hk]
      have := (MapKept.bytes_beq k k').1 hk
      simp [this]
    · rw [if_neg hk, lkFrom_none k l (i + 1)]
      have hne : k' ≠ k := fun e => hk ((MapKept.bytes_beq k k').2 e.symm)
      simp [hne]
theorem upd_length_le (l : Pairs) (k : ByteArray) (v : Value) : (upd l k v).length ≤ l.length + 1 := by
  unfold upd
  split <;> simp

theorem modify_ents (l : Pairs) (p : Nat) (k : ByteArray) (v : Value) (hp : (l[p]?).map (·.1) = some k) :
    (ents l).modify p (fun e => { e with key := .string k, val := v }) = ents (l.set p (k, v)) := by
  apply Array.ext_getElem?
  intro j
  rw [Array.getElem?_modify, ents_get, ents_get, List.getElem?_set]
  by_cases hj : p = j
  · subst hj
    rw [if_pos rfl, if_pos rfl]
    cases hl : l[p]? with
    | none => rw [hl] at hp; simp at hp
    | some q =>
      have hlt : p < l.length := by
        rcases Nat.lt_or_ge p l.length with h | h
        · exact h
        · rw [List.getElem?_eq_none h] at hl; cases hl
      rw [if_pos hlt]
      simp
  · rw [if_neg hj, if_neg hj]
theorem push_ents (l : Pairs) (k : ByteArray) (v : Value) : (ents l).push { key := .string k, val := v, born := l.length } = ents (l ++ [(k, v)]) := by
  apply Array.ext_getElem?
  intro j
  rw [Array.getElem?_push, ents_get, ents_get, ents_size]
  by_cases h : j = l.length
  · subst h
    simp
  · rw [if_neg h]
    rcases Nat.lt_or_ge j l.length with h1 | h1
    · rw [List.getElem?_append_left h1]
    · rw [List.getElem?_eq_none h1, List.getElem?_eq_none (by simp; omega)]

section
variable {P : Program}
theorem run_mapUpd {T K E : TypeId} (hT : P.underlying T = some (.map K E)) (hK : P.underlying K = some .string) (w : World) (r : Nat) (l : Pairs) (k : ByteArray) (v : Value) (h : w.heap[r]? = some (mobj l)) :
    (Instr.mapUpdate T (.map (some r)) (.string k) v).run P w = .ok () (setO w r (mobj (upd l k v))) := by
  have hf : ∀ w, (Instr.findKey K (.string k) (ents l).toList).run P w = .ok (lk k l) w := fun w => by
    simp [Instr.findKey, run_underlying hK, ents, find_ents, lk, Result.andThen]
  have hs : Instr.sameBits 10000 (.string k) (.string k) = true := by simp [Instr.sameBits, MapKept.bytes_beq]
  have hc : ∀ w, (Instr.checkKey false 10000 K (.string k)).run P w = .ok () w := fun w => MapKept.run_checkKey (w := w) hK (by simp [MapKept.IsKey]) false 9999
  unfold mobj at h
  unfold upd
  cases hl : lk k l with
  | none =>
    rw [hl] at hf
    simp [Instr.mapUpdate, run_underlying hT, MapKept.run_getObj_map h, hc, hf, MapKept.run_setObj_map _ h, Result.andThen, setO, push_ents, mobj]
  | some q =>
    obtain ⟨p, v'⟩ := q
    rw [hl] at hf
    have hp := lk_at hl
    have hm := modify_ents l p k v (by rw [hp]; rfl)
    have hk : ((ents l)[p]?).map (·.key) = some (.string k) := by rw [ents_get, hp]; rfl
    have hst : ∀ w, (Instr.keyThatStays (.string k) (.string k)).run P w = .ok (.string k) w := fun w => by simp [Instr.keyThatStays, hs]
    simp [Instr.mapUpdate, run_underlying hT, MapKept.run_getObj_map h, hc, hf, hk, hst, MapKept.run_setObj_map _ h, Result.andThen, setO, hm, mobj]

theorem run_lkOk {T K E : TypeId} (hT : P.underlying T = some (.map K E)) (hK : P.underlying K = some .string) (z : Value) (hz : ∀ w, (zeroValue E).run P w = .ok z w) (w : World) (r : Nat) (l : Pairs) (k : ByteArray) (h : w.heap[r]? = some (mobj l)) :
    (Instr.lookup T (.map (some r)) (.string k) true).run P w = .ok (.tuple #[((lk k l).map (·.2)).getD z, .bool (lk k l).isSome]) w := by
  have hf : ∀ w, (Instr.findKey K (.string k) (ents l).toList).run P w = .ok (lk k l) w := fun w => by
    simp [Instr.findKey, run_underlying hK, ents, find_ents, lk, Result.andThen]
  have hc : ∀ b w, (Instr.checkKey b 10000 K (.string k)).run P w = .ok () w := fun b w => MapKept.run_checkKey (w := w) hK (by simp [MapKept.IsKey]) b 9999
  unfold mobj at h
  cases hl : lk k l with
  | none =>
    rw [hl] at hf
    simp [Instr.lookup, run_underlying hT, MapKept.run_getObj_map h, hc, hf, hz, Result.andThen]
  | some q =>
    rw [hl] at hf
    simp [Instr.lookup, run_underlying hT, MapKept.run_getObj_map h, hc, hf, hz, Result.andThen]
theorem run_lk {T K E : TypeId} (hT : P.underlying T = some (.map K E)) (hK : P.underlying K = some .string) (z : Value) (hz : ∀ w, (zeroValue E).run P w = .ok z w) (w : World) (r : Nat) (l : Pairs) (k : ByteArray) (h : w.heap[r]? = some (mobj l)) :
    (Instr.lookup T (.map (some r)) (.string k) false).run P w = .ok (((lk k l).map (·.2)).getD z) w := by
  have hf : ∀ w, (Instr.findKey K (.string k) (ents l).toList).run P w = .ok (lk k l) w := fun w => by
    simp [Instr.findKey, run_underlying hK, ents, find_ents, lk, Result.andThen]
  have hc : ∀ b w, (Instr.checkKey b 10000 K (.string k)).run P w = .ok () w := fun b w => MapKept.run_checkKey (w := w) hK (by simp [MapKept.IsKey]) b 9999
  unfold mobj at h
  cases hl : lk k l with
  | none =>
    rw [hl] at hf
    simp [Instr.lookup, run_underlying hT, MapKept.run_getObj_map h, hc, hf, hz, Result.andThen]
  | some q =>
    rw [hl] at hf
    simp [Instr.lookup, run_underlying hT, MapKept.run_getObj_map h, hc, hf, hz, Result.andThen]
theorem run_mapLen {T K E : TypeId} (hT : P.underlying T = some (.map K E)) (w : World) (r : Nat) (l : Pairs) (h : w.heap[r]? = some (mobj l)) (ty : TypeId) :
    (Builtin.len_ #[T] ty #[.map (some r)]).run P w = .ok (.int .i64 l.length) w := by
  unfold mobj at h
  simp [Builtin.len_, run_underlying hT, MapKept.run_getObj_map h, Result.andThen, ents_size]
  rfl

theorem ents_born (l : Pairs) : ∀ x ∈ (ents l).toList, x.born < l.length := by
  intro x hx
  obtain ⟨j, hj⟩ := List.mem_iff_getElem?.1 hx
  have hj' : (ents l)[j]? = some x := by simpa using hj
  rw [ents_get] at hj'
  cases hl : l[j]? with
  | none => rw [hl] at hj'; cases hj'
  | some q =>
    rw [hl] at hj'
    simp only [Option.map_some, Option.some.injEq] at hj'
    rw [← hj']
    exact (List.getElem?_eq_some_iff.1 hl).1

theorem run_rangeM {T K E : TypeId} (hT : P.underlying T = some (.map K E)) (w : World) (r : Nat) (l : Pairs) (h : w.heap[r]? = some (mobj l)) :
    (Instr.range T (.map (some r))).run P w = .ok (.pointer (some ⟨w.heap.size, 0, none⟩)) (w.alloc (.mapIter (some r) l.length #[] l.length)) :=
  Go.run_range_map w T K E r (ents l) l.length hT h

/-- A step of a range over a map that the loop leaves alone: nothing is left, or one pair that is left, whichever. -/
theorem run_nextM (w : World) (ty : TypeId) (it r : Nat) (l : Pairs) (seen : Array Nat) (hi : w.heap[it]? = some (.mapIter (some r) l.length seen l.length)) (hm : w.heap[r]? = some (mobj l)) :
    ((∀ j, j < l.length → seen.contains j = true) ∧ (Instr.next (.pointer (some ⟨it, 0, none⟩)) false ty).run P w = .ok (.tuple #[.bool false]) w) ∨
    ∃ (j : Nat) (p : ByteArray × Value) (n : Nat), l[j]? = some p ∧ seen.contains j = false ∧ (Instr.next (.pointer (some ⟨it, 0, none⟩)) false ty).run P w = .ok (.tuple #[.bool true, .string p.1, p.2]) (setO (w.drewN n) it (.mapIter (some r) l.length (seen.push j) l.length)) := by
  unfold mobj at hm
  have hlen : List.length l = l.length := rfl
  simp only [Instr.next, getObj, Sem.run_bind, Sem.run, hi, hm, Result.andThen, Go.next_test_false seen (ents l) l.length l.length (ents_born l) (Nat.le_refl _), Bool.false_eq_true, if_false]
  have hmem : ∀ x ∈ (Array.filter (fun e => !seen.contains e.born) (ents l)).toList, x.born < l.length := fun x hx => ents_born l x (by simp at hx ⊢; exact hx.1)
  have hL : ∀ x ∈ (Array.filter (fun e => !seen.contains e.born) (ents l)).toList, ∃ p, l[x.born]? = some p ∧ x.key = .string p.1 ∧ x.val = p.2 ∧ seen.contains x.born = false := by
    intro x hx
    simp only [Array.toList_filter, List.mem_filter, Bool.not_eq_true'] at hx
    obtain ⟨hx1, hx2⟩ := hx
    obtain ⟨j, hj⟩ := List.mem_iff_getElem?.1 hx1
    have hj' : (ents l)[j]? = some x := by simpa using hj
    rw [ents_get] at hj'
    cases hl : l[j]? with
    | none => rw [hl] at hj'; cases hj'
    | some q =>
      rw [hl] at hj'
      simp only [Option.map_some, Option.some.injEq] at hj'
      subst hj'
      exact ⟨q, hl, rfl, rfl, hx2⟩
  have hall : (Array.filter (fun e => !seen.contains e.born) (ents l)).size = 0 → ∀ j, j < l.length → seen.contains j = true := by
    intro h0 j hj
    have he : Array.filter (fun e => !seen.contains e.born) (ents l) = #[] := Array.eq_empty_of_size_eq_zero h0
    rw [Array.filter_eq_empty_iff] at he
    have hg : (ents l)[j]? = some { key := .string l[j].1, val := l[j].2, born := j } := by rw [ents_get, List.getElem?_eq_getElem hj]; rfl
    have := he _ (Array.mem_of_getElem? hg)
    simpa using this
  generalize Array.filter (fun e => !seen.contains e.born) (ents l) = L at hmem hL hall ⊢
  have e1 : L.filter (fun x => decide (x.born < l.length)) = L := Array.filter_eq_self.2 (fun x hx => by simpa using hmem x (by simpa using hx))
  have e2 : L.filter (fun x => decide (x.born ≥ l.length)) = #[] := by
    rw [Array.filter_eq_empty_iff]
    intro x hx
    have := hmem x (by simpa using hx)
    simp
    omega
  simp only [e1, e2, Array.append_empty]
  by_cases h0 : L.size = 0
  · left
    have : L = #[] := Array.eq_empty_of_size_eq_zero h0
    subst this
    refine ⟨hall rfl, ?_⟩
    simp [choose, Sem.run, Question.forced]
  · right
    have hne : L.isEmpty = false := by simp [Array.isEmpty, h0]
    simp only [hne, Bool.false_eq_true, if_false, Array.empty_append, Array.size_map]
    have hch : ∃ (j n : Nat), j < L.size ∧ (choose (Question.mapNext L.size)).run P w = .ok j (w.drewN n) := by
      by_cases hf : L.size ≤ 1
      · exact ⟨0, 0, by omega, by simp [choose, Sem.run, Question.forced, hf, World.drewN]⟩
      · exact ⟨_, 1, Nat.mod_lt _ (by omega), by
          simp only [choose, Sem.run, Question.forced, decide_eq_true_eq, hf, if_false, Question.cut]
          rfl⟩
    obtain ⟨j, n, hj, hrun⟩ := hch
    obtain ⟨p, h1, h2, h3, h4⟩ := hL L[j] (by simp)
    refine ⟨L[j].born, p, n, h1, h4, ?_⟩
    have hset : ∀ (o' : Obj), (setObj it o').run P (w.drewN n) = .ok () (setO (w.drewN n) it o') := fun o' => by
      simp only [setObj, Sem.run]
      rw [show (w.drewN n).heap[it]? = w.heap[it]? from rfl, hi]
      rfl
    simp only [hrun, Array.getElem?_map, Array.getElem?_eq_getElem hj, Option.map_some, Sem.run_bind, hset, Result.andThen, h2, h3]
    rfl

/-- The pair of the step, read behind it. -/
theorem run_entryM (w : World) (it r : Nat) (l : Pairs) (seen : Array Nat) (j : Nat) (p : ByteArray × Value) (hi : w.heap[it]? = some (.mapIter (some r) l.length (seen.push j) l.length)) (hm : w.heap[r]? = some (mobj l)) (hj : l[j]? = some p) :
    (Instr.entry (.pointer (some ⟨it, 0, none⟩))).run P w = .ok (.tuple #[.string p.1, p.2]) w := by
  unfold mobj at hm
  have hf : (ents l).find? (·.born == j) = some { key := .string p.1, val := p.2, born := j } := by
    rw [Array.find?_eq_some_iff_getElem]
    have hlt : j < l.length := (List.getElem?_eq_some_iff.1 hj).1
    have hg := ents_get l j
    rw [hj] at hg
    refine ⟨by simp, j, by rw [ents_size]; exact hlt, ?_, ?_⟩
    · have := (Array.getElem?_eq_some_iff.1 hg).2
      exact this
    · intro i hi
      have hgi := ents_get l i
      rw [List.getElem?_eq_getElem (by omega)] at hgi
      have := (Array.getElem?_eq_some_iff.1 hgi).2
      rw [this]
      simp; omega
  simp only [Instr.entry, getObj, Sem.run_bind, Sem.run, hi, hm, Result.andThen, Array.back?_push, bne_self_eq_false, Bool.false_eq_true, if_false, hf]
  rfl
end

theorem setO_heap (w : World) (r : Nat) (o : Obj) (h : r < w.heap.size) : (setO w r o).heap[r]? = some o := by simp [setO, h]
theorem setO_other (w : World) (r k : Nat) (o : Obj) (h : k ≠ r) : (setO w r o).heap[k]? = w.heap[k]? := by simp [setO, Ne.symm h]
theorem setO_size (w : World) (r : Nat) (o : Obj) : (setO w r o).heap.size = w.heap.size := by simp [setO]
theorem below_setO {B r : Nat} {w0 w : World} (hb : Below B w0 w) (h : B ≤ r) (o : Obj) : Below B w0 (setO w r o) :=
  ⟨hb.os, hb.tape, hb.output, by rw [setO_size]; exact hb.size, fun k hk => by rw [setO_other _ _ _ _ (by omega)]; exact hb.block k hk⟩
end Go.Proofs.YtnggkkdcddpjlaaGreatDoor
