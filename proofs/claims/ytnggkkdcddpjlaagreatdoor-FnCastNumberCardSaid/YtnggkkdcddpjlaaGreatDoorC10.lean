/- cast.toMapE at the map of boxed values: what it gathers, whatever the order of the range. -/
import Derived.Test.YtnggkkdcddpjlaaGreatDoorC9
import Derived.Test.YtnggkkdcddpjlaaGreatDoorLK
namespace Go.Proofs.YtnggkkdcddpjlaaGreatDoor
open Go.RowKit
set_option maxRecDepth 100000
set_option linter.unusedVariables false
/-- What a call of the function value fn makes of v. -/
def Does (fn : FuncId) (v r : Value) : Prop := ∀ w, Good w → Calls Tryz.prog fn #[v] w fun e w' => e = .returned r ∧ Below w.heap.size w w'
theorem gath_le {l : Pairs} {f : Value → Value} {seen : Array Nat} {m : Pairs} (h : Gath l f seen m) : seen.size ≤ l.length := by
  have hp : seen.toList.Perm ((List.range l.length).filter fun a => seen.contains a) := by
    refine (List.perm_ext_iff_of_nodup h.nodup (List.nodup_range.filter _)).2 fun a => ?_
    rw [List.mem_filter, List.mem_range]
    exact ⟨fun ha => ⟨h.lt a (by simpa using ha), by simpa using ha⟩, fun ha => by simpa using ha.2⟩
  have h1 := hp.length_eq
  have h2 := List.length_filter_le (fun a => seen.contains a) (List.range l.length)
  simp only [Array.length_toList, List.length_range] at h1 h2
  omega
def seenSz (w : World) (it : Nat) : Nat := match w.heap[it]? with | some (.mapIter _ _ seen _) => seen.size | _ => 0
theorem toMap_bool (H : Nat) (l : Pairs) (f : Value → Value) (w : World) (hg : Good w) (hd : Dis l) (hH : w.heap[H]? = some (mobj l)) (hf : ∀ (j : Nat) (p : ByteArray × Value), l[j]? = some p → Does 42 p.2 (f p.2)) (hsmall : l.length ≤ 60) :
    Calls Tryz.prog 137 #[.iface 93 (.map (some H)), .func (.func 56) #[] #[], .func (.func 42) #[] #[]] w fun r w' => ∃ O m, r = .returned (.tuple #[.map (some O), .nilIface]) ∧ w.heap.size ≤ O ∧ w'.heap[O]? = some (mobj m) ∧ (m.length = l.length ∧ ∀ k, lk2 k m = (lk2 k l).map f) ∧ Below w.heap.size w w' := by
  have HG := Lib.hid hg
  have HH := Lib.hid hH
  have HF := Lib.hid hf
  have HD := Lib.hid hd
  have hHlt : H < w.heap.size := (Array.getElem?_eq_some_iff.1 hH).1
  clear hg hH hf hd
  have hmm := @run_makeMap Tryz.prog
  have hR : ∀ w' : World, w'.heap[H]? = some (mobj l) → (Instr.range 93 (.map (some H))).run Tryz.prog w' = .ok (.pointer (some ⟨w'.heap.size, 0, none⟩)) (w'.alloc (.mapIter (some H) l.length #[] l.length)) := fun w' h => run_rangeM Tryz.underlying93 _ _ _ h
  have hA := hR (w.alloc (mobj [])) (held_on HH.out (below_alloc w _))
  clear hR
  have e0 : mobj [] = .map #[] 0 := rfl
  rw [e0] at hA
  go_enter Tryz.func137, Tryz.ntmps137
  go_wp2_with fail
  clear hA
  generalize hWW : World.alloc (World.alloc w _) _ = W
  have hWb : Below w.heap.size w W := by rw [← hWW]; exact below_two w _ _
  have hWO : W.heap[w.heap.size]? = some (mobj []) := by rw [← hWW]; exact heap_alloc2_old w _ _
  have hWI : W.heap[w.heap.size + 1]? = some (.mapIter (some H) l.length #[] l.length) := by rw [← hWW]; exact heap_alloc2_new w _ _
  clear hWW
  go_loopw [] (fun wr => ∃ seen m, Below w.heap.size w wr ∧ wr.heap[w.heap.size]? = some (mobj m) ∧ wr.heap[w.heap.size + 1]? = some (.mapIter (some H) l.length seen l.length) ∧ Gath l f seen m) (fun wr => l.length - seenSz wr (w.heap.size + 1))
  case atStart => exact ⟨_, _, hWb, hWO, hWI, gath_start l f⟩
  case round =>
    obtain ⟨seen, m, hb, hO, hI, hgath⟩ := hrel
    have hHr : wr.heap[H]? = some (mobj l) := held_on HH.out hb
    have HHr := Lib.hid hHr
    have HO := Lib.hid hO
    have HI := Lib.hid hI
    have HGa := Lib.hid hgath
    have HBel := Lib.hid hb
    clear hHr hO hI hgath hb
    rcases run_nextM (P := Tryz.prog) wr 0 (w.heap.size + 1) H l seen HI.out HHr.out with ⟨hall, hrun⟩ | ⟨j, ⟨k, v⟩, nn, hj, hs, hrun⟩
    · have HA := Lib.hid hall
      clear hall
      go_wp2_with fail
      go_ret2
      exact ⟨_, m, rfl, Nat.le_refl _, HO.out, gath_end HGa.out HA.out, HBel.out⟩
    · have HJ := Lib.hid hj
      have HSn := Lib.hid hs
      clear hj hs
      generalize hW1 : setO (wr.drewN nn) (w.heap.size + 1) _ = W1 at hrun
      have hI1 : W1.heap[w.heap.size + 1]? = some (.mapIter (some H) l.length (seen.push j) l.length) := by
        rw [← hW1]; exact setO_heap _ _ _ (Array.getElem?_eq_some_iff.1 HI.out).1
      have hO1 : W1.heap[w.heap.size]? = some (mobj m) := by rw [← hW1, setO_other _ _ _ _ (by omega)]; exact HO.out
      have hH1 : W1.heap[H]? = some (mobj l) := by rw [← hW1, setO_other _ _ _ _ (by omega)]; exact HHr.out
      have hb1 : Below w.heap.size w W1 := by rw [← hW1]; exact below_setO (belowOn HBel.out (below_drewN _ _)) (by omega) _
      have hE := run_entryM (P := Tryz.prog) W1 (w.heap.size + 1) H l seen j (k, v) hI1 hH1 HJ.out
      have hg1 := HG.out.on hb1
      have HI1 := Lib.hid hI1
      have HO1 := Lib.hid hO1
      have HB1 := Lib.hid hb1
      have HG1 := Lib.hid hg1
      clear hW1 hI1 hO1 hH1 hb1 hg1
      have hU : ∀ w' : World, w'.heap[w.heap.size]? = some (mobj m) → (Instr.mapUpdate 33 (.map (some w.heap.size)) (.string k) (f v)).run Tryz.prog w' = .ok () (setO w' w.heap.size (mobj (upd m k (f v)))) := fun w' h => run_mapUpd Tryz.underlying33 Tryz.underlying9 w' _ _ _ _ h
      go_wp2_with (go_at_call 42; refine (HF.out j _ HJ.out _ HG1.out).mono ?_; rintro r w2 ⟨rfl, hb2⟩; have hm2 := held_on HO1.out hb2; have hi2 := Lib.hid (held_on HI1.out hb2))
      have hgn := gath_step HD.out HGa.out HJ.out HSn.out
      have hI3 : (setO w2 w.heap.size (mobj (upd m k (f v)))).heap[w.heap.size + 1]? = some (.mapIter (some H) l.length (seen.push j) l.length) := by
        rw [setO_other _ _ _ _ (by omega)]; exact hi2.out
      have hO3 : (setO w2 w.heap.size (mobj (upd m k (f v)))).heap[w.heap.size]? = some (mobj (upd m k (f v))) := setO_heap _ _ _ (Array.getElem?_eq_some_iff.1 hm2).1
      refine ⟨⟨_, _, below_setO (belowOn HB1.out hb2) (Nat.le_refl _) _, hO3, hI3, hgn⟩, ?_⟩
      have h1 := gath_le hgn
      have e1 : seenSz wr (w.heap.size + 1) = seen.size := by unfold seenSz; rw [HI.out]
      have e2 : seenSz (setO w2 w.heap.size (mobj (upd m k (f v)))) (w.heap.size + 1) = seen.size + 1 := by unfold seenSz; rw [hI3]; simp
      rw [e1, e2]
      simp only [Array.size_push] at h1
      omega
end Go.Proofs.YtnggkkdcddpjlaaGreatDoor
