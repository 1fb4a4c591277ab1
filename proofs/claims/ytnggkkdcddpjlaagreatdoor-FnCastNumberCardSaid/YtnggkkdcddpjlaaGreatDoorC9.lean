/- The map that impl.value makes of the entries: impl.keyed, impl.value at KMap. -/
import Derived.Test.YtnggkkdcddpjlaaGreatDoorC8
namespace Go.Proofs.YtnggkkdcddpjlaaGreatDoor
open Go.RowKit
set_option maxRecDepth 100000
set_option linter.unusedVariables false
/-- The map of the first n entries' values. -/
def boxes (es : Nat → Ent) : Nat → Pairs
  | 0 => []
  | n + 1 => upd (boxes es n) (es n).key (es n).box
theorem keyed_any (p : Option Addr) (n cap : Nat) (es : Nat → Ent) (w : World) (hL : Lst w p n cap es) (hF : ∀ j, j < n → (es j).Fine) :
    Calls Tryz.prog 92 #[.slice p n cap, .func (.func 40) #[] #[]] w fun r w' => ∃ H, r = .returned (.map (some H)) ∧ w.heap.size ≤ H ∧ w'.heap[H]? = some (mobj (boxes es n)) ∧ Below w.heap.size w w' := by
  have h1 := hL.le
  have h2 := hL.n60
  have HL := Lib.hid hL
  have HF := Lib.hid hF
  clear hL hF
  have hmm := @run_makeMap Tryz.prog
  go_enter Tryz.func92, Tryz.ntmps92
  go_wp2
  have h0 : (w.alloc (mobj [])).heap[w.heap.size]? = some (mobj []) := heap_alloc_new _ _
  go_loopw [11] (fun i wr => ∃ k : Nat, k ≤ n ∧ i = .int .i64 k ∧ Below w.heap.size w wr ∧ wr.heap[w.heap.size]? = some (mobj (boxes es k)) ∧ w.heap.size + 1 ≤ wr.heap.size) (fun i _ => n - (intOf i).toNat)
  case atStart => exact ⟨0, Nat.zero_le _, rfl, below_alloc _ _, h0, by simp⟩
  case round =>
    obtain ⟨k, hk, rfl, hb, hmap, hsz0⟩ := hrel
    have HBel := Lib.hid hb
    have HL2 := Lib.hid (HL.out.on hb)
    have HM := Lib.hid hmap
    have HS := Lib.hid hsz0
    clear hb hmap hsz0
    by_cases hkn : k < n
    · obtain ⟨g, rfl, hg, hc⟩ := HL2.out.at0 (by omega)
      have HR := Lib.hid (hc k hkn)
      have HFk := HF.out k hkn
      have HX : Hid (boxes es (k + 1) = upd (boxes es k) (es k).key (es k).box) := rfl
      generalize hE : es k = e at HR HFk HX
      clear hc hE
      have HFk := Lib.hid HFk
      have hj0 : (0 : Int) ≤ (k : Int) := by omega
      have hj1 : (k : Int) < (n : Int) := by omega
      go_wp2_with (first | (refine wpList_load_mid rfl 30 _ rfl g (k * 8) rfl _ _ HR.out Tryz.underlying30 rfl size30 ?_) | (refine wpList_store_row rfl 30 _ _ rfl wr.heap.size e.cells.toArray rfl rfl 30 _ (heap_alloc_new _ _) size30 rfl (by simp [Value.oneCell']) ?_))
      generalize hWW : World.setRow _ _ _ = W
      have hrow : W.heap[wr.heap.size]? = some (.cells e.cells.toArray 30 (0, 0)) := by rw [← hWW]; exact setRow_heap _ _ _ _ _ _ (heap_alloc_new _ _)
      have hsz : W.heap.size = wr.heap.size + 1 := by rw [← hWW]; simp [World.setRow]
      have hWb : Below wr.heap.size wr W := by rw [← hWW]; exact below_setRow (below_alloc wr _) (Nat.le_refl _) _
      have hmW : W.heap[w.heap.size]? = some (mobj (boxes es k)) := held_on HM.out hWb
      clear hWW HR
      have HWb := Lib.hid hWb
      have HSz := Lib.hid hsz
      have hmWd : W.drew.heap[w.heap.size]? = some (mobj (boxes es k)) := hmW
      have HMW := Lib.hid hmWd
      clear hWb hsz hmW hmWd
      refine Hid.out ?_
      obtain ⟨xb, hxb⟩ : ∃ xb, xb = wr.heap.size := ⟨_, rfl⟩
      rw [← hxb] at hrow ⊢
      have HXb := Lib.hid hxb
      clear hxb
      refine Lib.hid ?_
      have hV := fun w => value_any e HFk.out w
      generalize e.box = bx at hV HX
      have HV := Lib.hid hV
      clear hV
      obtain ⟨H, hH⟩ : ∃ H, H = w.heap.size := ⟨_, rfl⟩
      have hU : ∀ w' : World, w'.heap[w.heap.size]? = some (mobj (boxes es k)) → (Instr.mapUpdate 93 (.map (some w.heap.size)) (.string e.key) bx).run Tryz.prog w' = .ok () (setO w' w.heap.size (mobj (upd (boxes es k) e.key bx))) := fun w' h => run_mapUpd Tryz.underlying93 Tryz.underlying9 w' _ _ _ _ h
      have hL0 : ∀ w' : World, w'.heap[xb]? = some (Obj.cells e.cells.toArray 30 (0, 0)) → w'.cell? ⟨xb, 0, none⟩ = some (.string e.key) := fun w' h => by simp [World.cell?, h]
      have hL1 : ∀ w' : World, w'.heap[xb]? = some (Obj.cells e.cells.toArray 30 (0, 0)) → w'.cell? ⟨xb, 1, none⟩ = some (.int .i64 e.k) := fun w' h => by simp [World.cell?, h]
      have hL2 : ∀ w' : World, w'.heap[xb]? = some (Obj.cells e.cells.toArray 30 (0, 0)) → w'.cell? ⟨xb, 2, none⟩ = some (.int .i64 e.i) := fun w' h => by simp [World.cell?, h]
      have hL3 : ∀ w' : World, w'.heap[xb]? = some (Obj.cells e.cells.toArray 30 (0, 0)) → w'.cell? ⟨xb, 3, none⟩ = some (.int .u64 e.u) := fun w' h => by simp [World.cell?, h]
      have hL4 : ∀ w' : World, w'.heap[xb]? = some (Obj.cells e.cells.toArray 30 (0, 0)) → w'.cell? ⟨xb, 4, none⟩ = some (.float .f64 e.f) := fun w' h => by simp [World.cell?, h]
      have hL5 : ∀ w' : World, w'.heap[xb]? = some (Obj.cells e.cells.toArray 30 (0, 0)) → w'.cell? ⟨xb, 5, none⟩ = some (.string e.s) := fun w' h => by simp [World.cell?, h]
      have hL6 : ∀ w' : World, w'.heap[xb]? = some (Obj.cells e.cells.toArray 30 (0, 0)) → w'.cell? ⟨xb, 6, none⟩ = some (.slice none 0 0) := fun w' h => by simp [World.cell?, h]
      have hL7 : ∀ w' : World, w'.heap[xb]? = some (Obj.cells e.cells.toArray 30 (0, 0)) → w'.cell? ⟨xb, 7, none⟩ = some (.slice none 0 0) := fun w' h => by simp [World.cell?, h]
      have HWd := Lib.hid (HWb.out.drew)
      have hXne : xb ≠ w.heap.size := by have h1 := HXb.out; have h2 := HS.out; omega
      have hrowd : W.drew.heap[xb]? = some (.cells e.cells.toArray 30 (0, 0)) := hrow
      go_region_held3 (fun w' => w'.heap[xb]? = some (.cells e.cells.toArray 30 (0, 0)))
        (first | (with_reducible assumption) | exact (setO_other _ _ _ _ hXne).trans hk2)
        (first
          | (go_at_call 40; refine (HV.out _).mono ?_; rintro r w2 ⟨rfl, hb2⟩; have hk2 := held_on (by assumption) hb2; have hm2 := held_on HMW.out hb2; have hB2 := belowOn HWd.out hb2))
      all_goals
        have hfin : (setO w2 w.heap.size (mobj (upd (boxes es k) e.key bx))).heap[w.heap.size]? = some (mobj (boxes es (k + 1))) := by
          rw [HX.out]
          exact setO_heap _ _ _ (by have h1 := HBel.out.size; have h2 := hB2.size; have h3 := HS.out; omega)
        have hsz3 : w.heap.size + 1 ≤ (setO w2 w.heap.size (mobj (upd (boxes es k) e.key bx))).heap.size := by
          rw [setO_size]; have h2 := hB2.size; have h3 := HS.out; omega
        have hbel3 : Below w.heap.size w (setO w2 w.heap.size (mobj (upd (boxes es k) e.key bx))) := below_setO (belowOn HBel.out hB2) (Nat.le_refl _) _
        have HFin := Lib.hid hfin
        have HSz3 := Lib.hid hsz3
        have HBel3 := Lib.hid hbel3
        clear hfin hsz3 hbel3
        go_wp2
        all_goals exact ⟨⟨k + 1, by omega, by simp, HBel3.out, HFin.out, HSz3.out⟩, by simp [intOf]; omega⟩
    · have hkn' : k = n := by omega
      subst hkn'
      go_wp2
      go_ret
      exact ⟨_, rfl, Nat.le_refl _, HM.out, HBel.out⟩
end Go.Proofs.YtnggkkdcddpjlaaGreatDoor
