/- cast's own zzInSet, zzTrimLeft at the set of the plus sign. -/
import Derived.Test.YtnggkkdcddpjlaaGreatDoorI1
import Derived.Laws.RangeAny
namespace Go.Proofs.YtnggkkdcddpjlaaGreatDoor
open Go.RowKit
set_option maxRecDepth 100000
set_option linter.unusedVariables false
set_option linter.unusedSimpArgs false
def plusB : ByteArray := ⟨#[43]⟩
/-- The string's iterator in block b goes on to a place. -/
def reIter (w : World) (b : Nat) (s : ByteArray) (pos : Nat) : World := { w with heap := w.heap.setIfInBounds b (.stringIter s pos) }
theorem reIter_at {w : World} {b : Nat} {s : ByteArray} {pos : Nat} (h : w.heap[b]? = some (.stringIter s pos)) (pos' : Nat) : (reIter w b s pos').heap[b]? = some (.stringIter s pos') := by
  have hb : b < w.heap.size := by
    rcases Nat.lt_or_ge b w.heap.size with h1 | h1
    · exact h1
    · rw [Array.getElem?_eq_none h1] at h; cases h
  show (w.heap.setIfInBounds b _)[b]? = _
  rw [Array.getElem?_setIfInBounds]
  simp [hb]
theorem reIter_below {B : Nat} {w : World} {b : Nat} {s : ByteArray} {pos : Nat} (hB : B ≤ b) : Below B w (reIter w b s pos) := by
  refine ⟨rfl, rfl, rfl, ?_, fun k hk => ?_⟩
  · show w.heap.size ≤ (w.heap.setIfInBounds b _).size
    simp
  · show (w.heap.setIfInBounds b _)[k]? = w.heap[k]?
    rw [Array.getElem?_setIfInBounds]
    rw [if_neg (by omega)]
theorem next_on {P : Program} {w : World} {b : Nat} {s : ByteArray} {pos : Nat} (h : w.heap[b]? = some (.stringIter s pos)) (hp : pos < s.size) (ty : TypeId) :
    (Instr.next (.pointer (some ⟨b, 0, none⟩)) true ty).run P w = .ok (.tuple #[.bool true, .int .i64 pos, .int .i32 (Utf8.decode s pos).1]) (reIter w b s (pos + (Utf8.decode s pos).2)) := by
  simp only [Instr.next, getObj, setObj, Sem.run_bind, Sem.run, h, Result.andThen, hp, if_true]
  simp [goInt, reIter]
theorem next_off {P : Program} {w : World} {b : Nat} {s : ByteArray} {pos : Nat} (h : w.heap[b]? = some (.stringIter s pos)) (hp : ¬ pos < s.size) (ty : TypeId) :
    (Instr.next (.pointer (some ⟨b, 0, none⟩)) true ty).run P w = .ok (.tuple #[.bool false]) w := by
  simp [Instr.next, getObj, Sem.run, h, hp]
theorem decode_is (s : ByteArray) (pos : Nat) (h : pos < s.size) : (byt s pos = 43 → Utf8.decode s pos = (43, 1)) ∧ (byt s pos ≠ 43 → (((Utf8.decode s pos).1 : Int) == 43) = false) := by
  have hb := byt_at h
  refine ⟨fun e => ?_, fun e => ?_⟩
  · have h1 : (s[pos]'h).toNat = 43 := by omega
    rw [decode_ascii s pos h (by omega), h1]
  · by_cases ha : (s[pos]'h).toNat < 128
    · rw [decode_ascii s pos h ha]
      simp
      omega
    · have := (decode_high s pos h (by omega)).1
      simp
      omega
set_option maxHeartbeats 1000000 in
theorem inSet_run (c : Int) (w : World) : Calls Tryz.prog 190 #[.int .i32 c, .string plusB] w fun e w' => e = .returned (.bool (c == 43)) ∧ Below w.heap.size w w' := by
  obtain ⟨R, hR⟩ : ∃ r, r = (c == 43) := ⟨_, rfl⟩
  rw [← hR]
  obtain ⟨Q, hQ⟩ : ∃ Q : Ending → World → Prop, Q = fun e w' => e = .returned (.bool R) ∧ Below w.heap.size w w' := ⟨_, rfl⟩
  rw [← hQ]
  have HQ := Lib.hid hQ
  have HR := Lib.hid hR
  clear hQ hR
  have h43 := (decode_is plusB 0 (by decide)).1 (by decide)
  go_enter Tryz.func190, Tryz.ntmps190
  go_wp2_with fail
  go_loopg [] 2 (fun g wr => ∃ pos : Nat, g + pos = 2 ∧ pos ≤ 1 ∧ (pos = 1 → c ≠ 43) ∧ wr.heap[w.heap.size]? = some (.stringIter plusB pos) ∧ Below w.heap.size w wr)
  case atStart => exact ⟨0, rfl, by omega, fun e => by omega, World.iter_heap w plusB 0, below_alloc w _⟩
  case round =>
    obtain ⟨pos, h1, h2, h3, h4, h5⟩ := hrel
    have H5 := Lib.hid h5
    have H4 := Lib.hid h4
    clear h5 h4
    rcases (show pos = 0 ∨ pos = 1 by omega) with rfl | rfl
    · have hnx := fun ty => next_on (P := Tryz.prog) H4.out (show 0 < plusB.size by decide) ty
      rw [h43] at hnx
      cases R
      · have hne : (c == 43) = false := HR.out.symm
        go_wp2_with fail
        go_roundg 1
        case measure => omega
        case rel => exact ⟨1, rfl, by omega, fun _ => by simpa using hne, reIter_at H4.out 1, H5.out.trans (reIter_below (Nat.le_refl _))⟩
      · have hne : (c == 43) = true := HR.out.symm
        go_wp2_with fail
        rw [HQ.out]
        exact ⟨rfl, H5.out.trans (reIter_below (Nat.le_refl _))⟩
    · have hnx := fun ty => next_off (P := Tryz.prog) H4.out (show ¬ 1 < plusB.size by decide) ty
      have hne := h3 rfl
      have hR : R = false := by rw [HR.out]; simpa using hne
      subst hR
      clear h3 hne
      go_wp2_with fail
      rw [HQ.out]
      exact ⟨rfl, H5.out⟩
/-- Where the leading plus signs end. -/
def tlF (s : ByteArray) : Nat → Nat → Nat
  | 0, p => p
  | f + 1, p => if p < s.size ∧ byt s p = 43 then tlF s f (p + 1) else p
def tlS (s : ByteArray) : ByteArray := if tlF s s.size 0 < s.size then s.extract (tlF s s.size 0) s.size else ⟨#[]⟩
theorem tlS_size (s : ByteArray) : (tlS s).size ≤ s.size := by
  unfold tlS
  split
  · rw [ByteArray.size_extract]; omega
  · exact Nat.zero_le _
set_option maxHeartbeats 1000000 in
theorem trimLeft_run (s : ByteArray) (hs : s.size ≤ 1000000) (w : World) : Calls Tryz.prog 159 #[.string s, .string plusB] w fun e w' => e = .returned (.string (tlS s)) ∧ Below w.heap.size w w' := by
  obtain ⟨R, hR⟩ : ∃ r, r = tlS s := ⟨_, rfl⟩
  rw [← hR]
  obtain ⟨Q, hQ⟩ : ∃ Q : Ending → World → Prop, Q = fun e w' => e = .returned (.string R) ∧ Below w.heap.size w w' := ⟨_, rfl⟩
  rw [← hQ]
  have HQ := Lib.hid hQ
  obtain ⟨N, hN⟩ : ∃ n, n = tlF s s.size 0 := ⟨_, rfl⟩
  have hRN : R = if N < s.size then s.extract N s.size else ⟨#[]⟩ := by rw [hR, hN]; rfl
  have HR := Lib.hid hRN
  have HN := Lib.hid hN
  clear hQ hR hN hRN
  go_enter Tryz.func159, Tryz.ntmps159
  go_wp2_with fail
  go_loopg [] s.size (fun g wr => ∃ pos : Nat, g + pos = s.size ∧ tlF s g pos = N ∧ wr.heap[w.heap.size]? = some (.stringIter s pos) ∧ Below w.heap.size w wr)
  case atStart => exact ⟨0, rfl, HN.out.symm, World.iter_heap w s 0, below_alloc w _⟩
  case round =>
    obtain ⟨pos, h1, h2, h4, h5⟩ := hrel
    have H5 := Lib.hid h5
    have H4 := Lib.hid h4
    have H2 := Lib.hid h2
    clear h5 h4 h2
    cases gk with
    | zero =>
      have hp : ¬ pos < s.size := by omega
      have hnx := fun ty => next_off (P := Tryz.prog) H4.out hp ty
      have hn : R = ⟨#[]⟩ := by
        rw [HR.out, if_neg]
        have h2 : pos = N := H2.out
        omega
      have HNr := Lib.hid hn
      clear hn
      go_wp2_with fail
      rw [HQ.out, HNr.out]
      exact ⟨rfl, H5.out⟩
    | succ g =>
      have hp : pos < s.size := by omega
      have hpi : (pos : Int) ≤ s.size := by omega
      have hp0 : (0 : Int) ≤ pos := by omega
      have hd := decode_is s pos hp
      have hnx := fun ty => next_on (P := Tryz.prog) H4.out hp ty
      by_cases h43 : byt s pos = 43
      · rw [hd.1 h43] at hnx
        have H3 : Hid (tlF s g (pos + 1) = N) := Lib.hid (by
          have h2 := H2.out
          rw [tlF, if_pos ⟨hp, h43⟩] at h2
          exact h2)
        clear hd h43
        have HB0 := Lib.hid (H5.out.trans (reIter_below (b := w.heap.size) (w := wr) (s := s) (pos := pos + 1) (Nat.le_refl _)))
        have HI := Lib.hid (reIter_at H4.out (pos + 1))
        have hsz := HB0.out.size
        go_wp2_with (go_at_call 190; refine (inSet_run _ _).mono ?_; rintro r w2 ⟨rfl, hb2⟩; have HB2 := Lib.hid hb2; clear hb2)
        go_roundg g
        case measure => omega
        case rel =>
          have hlt : w.heap.size < (reIter wr w.heap.size s (pos + 1)).heap.size := by
            rcases Nat.lt_or_ge w.heap.size (reIter wr w.heap.size s (pos + 1)).heap.size with h1 | h1
            · exact h1
            · have h9 := HI.out
              rw [Array.getElem?_eq_none h1] at h9; cases h9
          exact ⟨pos + 1, by omega, H3.out, (HB2.out.block _ hlt).trans HI.out, HB0.out.trans (HB2.out.mono hsz)⟩
      · have hne := hd.2 h43
        have hn : R = s.extract pos s.size := by
          have h2 := H2.out
          rw [tlF, if_neg (fun h => h43 h.2)] at h2
          rw [HR.out, ← h2, if_pos hp]
        have HNr := Lib.hid hn
        obtain ⟨c, hc⟩ : ∃ c, Utf8.decode s pos = c := ⟨_, rfl⟩
        obtain ⟨c1, c2⟩ := c
        rw [hc] at hnx hne
        dsimp only at hnx hne
        clear hn hd h43 hc
        have HB0 := Lib.hid (H5.out.trans (reIter_below (b := w.heap.size) (w := wr) (s := s) (pos := pos + c2) (Nat.le_refl _)))
        have hsz := HB0.out.size
        go_wp2_with (go_at_call 190; refine (inSet_run _ _).mono ?_; rintro r w2 ⟨rfl, hb2⟩; have HB2 := Lib.hid hb2; clear hb2)
        rw [HQ.out, HNr.out]
        exact ⟨rfl, HB0.out.trans (HB2.out.mono hsz)⟩
end Go.Proofs.YtnggkkdcddpjlaaGreatDoor
