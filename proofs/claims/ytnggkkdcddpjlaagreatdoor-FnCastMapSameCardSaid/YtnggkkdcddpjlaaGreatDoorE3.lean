/- The maps of the entries' texts, ints and truths that impl.value makes; impl.keys at int and any; the doors of cast at a map of its own type (printed by wip/gen_e3.py). -/
import Derived.Test.YtnggkkdcddpjlaaGreatDoorE2
import Derived.Test.YtnggkkdcddpjlaaGreatDoorC11
namespace Go.Proofs.YtnggkkdcddpjlaaGreatDoor
open Go.RowKit
set_option maxRecDepth 100000
set_option linter.unusedVariables false
/-- The map of the first n entries' values, each told by F. -/
def boxesF (F : Ent → Value) (es : Nat → Ent) : Nat → Pairs
  | 0 => []
  | n + 1 => upd (boxesF F es n) (es n).key (F (es n))
theorem boxes_eq (es : Nat → Ent) : ∀ n, boxes es n = boxesF Ent.box es n
  | 0 => rfl
  | n + 1 => by unfold boxes boxesF; rw [boxes_eq es n]
theorem boxesF_of (F : Ent → Value) (es : Nat → Ent) (P : Value → Prop) : ∀ n, (∀ j, j < n → P (F (es j))) → ∀ (j : Nat) (q : ByteArray × Value), (boxesF F es n)[j]? = some q → P q.2
  | 0, h, j, q, hq => by simp [boxesF] at hq
  | n + 1, h, j, q, hq => by
    have ih := boxesF_of F es P n (fun j hj => h j (by omega))
    unfold boxesF upd at hq
    split at hq
    · rename_i i v hl
      rw [List.getElem?_set] at hq
      split at hq
      · split at hq
        · cases hq
          exact h n (by omega)
        · cases hq
      · exact ih j q hq
    · rw [List.getElem?_append] at hq
      split at hq
      · exact ih j q hq
      · rw [List.getElem?_singleton] at hq
        split at hq
        · cases hq
          exact h n (by omega)
        · cases hq
theorem boxesF_dis (F : Ent → Value) (es : Nat → Ent) : ∀ n, Dis (boxesF F es n)
  | 0 => dis_nil
  | n + 1 => dis_upd _ _ (boxesF_dis F es n)
theorem boxesF_lk (F : Ent → Value) (es : Nat → Ent) (k : ByteArray) : ∀ n, lk2 k (boxesF F es n) = (last es k n).map F
  | 0 => rfl
  | n + 1 => by
    unfold boxesF last
    rw [lk2_upd, boxesF_lk F es k n]
    by_cases h : (es n).key = k
    · rw [if_pos h.symm, if_pos h]; rfl
    · rw [if_neg (fun e => h e.symm), if_neg h]
theorem boxesF_length (F : Ent → Value) (es : Nat → Ent) : ∀ n, (boxesF F es n).length = keysN es n
  | 0 => rfl
  | n + 1 => by
    unfold boxesF keysN
    rw [upd_length, boxesF_length F es n, boxesF_lk]
    cases last es (es n).key n <;> rfl
def sF (e : Ent) : Value := .string e.s
def iF (e : Ent) : Value := .int .i64 e.i
def bF (e : Ent) : Value := .bool (e.i != 0)
theorem clo_s (e : Ent) (w : World) : Calls Tryz.prog 94 #[e.any] w fun r w' => r = .returned (sF e) ∧ Below w.heap.size w w' := by
  unfold sF
  go_enter Tryz.func94, Tryz.ntmps94
  go_wp2
  go_ret
  exact ⟨rfl, below_alloc w _⟩
theorem clo_i (e : Ent) (w : World) : Calls Tryz.prog 96 #[e.any] w fun r w' => r = .returned (iF e) ∧ Below w.heap.size w w' := by
  unfold iF
  go_enter Tryz.func96, Tryz.ntmps96
  go_wp2
  go_ret
  exact ⟨rfl, below_alloc w _⟩
theorem clo_b (e : Ent) (w : World) : Calls Tryz.prog 98 #[e.any] w fun r w' => r = .returned (bF e) ∧ Below w.heap.size w w' := by
  unfold bF
  go_enter Tryz.func98, Tryz.ntmps98
  go_wp2
  go_ret
  exact ⟨rfl, below_alloc w _⟩

theorem keyed_s (p : Option Addr) (n cap : Nat) (es : Nat → Ent) (w : World) (hL : Lst w p n cap es) (hF : ∀ j, j < n → (es j).Fine) :
    Calls Tryz.prog 93 #[.slice p n cap, .func (.func 94) #[] #[]] w fun r w' => ∃ H, r = .returned (.map (some H)) ∧ w.heap.size ≤ H ∧ w'.heap[H]? = some (mobj (boxesF sF es n)) ∧ Below w.heap.size w w' := by
  have h1 := hL.le
  have h2 := hL.n60
  have HL := Lib.hid hL
  have HF := Lib.hid hF
  clear hL hF
  have hmm := @run_makeMap Tryz.prog
  go_enter Tryz.func93, Tryz.ntmps93
  go_wp2
  have h0 : (w.alloc (mobj [])).heap[w.heap.size]? = some (mobj []) := heap_alloc_new _ _
  go_loopw [11] (fun i wr => ∃ k : Nat, k ≤ n ∧ i = .int .i64 k ∧ Below w.heap.size w wr ∧ wr.heap[w.heap.size]? = some (mobj (boxesF sF es k)) ∧ w.heap.size + 1 ≤ wr.heap.size) (fun i _ => n - (intOf i).toNat)
  case atStart => exact ⟨0, Nat.zero_le _, rfl, below_alloc _ _, h0, by simp⟩
  case round =>
    obtain ⟨k, hk, rfl, hb, hmap, hsz0⟩ := hrel
    have HBel := Lib.hid hb
    have HL2 := Lib.hid (HL.out.on hb)
    have HM := Lib.hid hmap
    have HS := Lib.hid hsz0
    clear hb hmap hsz0
    by_cases hkn : k < n
    · obtain ⟨g, rfl, hg, hc⟩ := HL2.out.at0 (by omega)
      have HR := Lib.hid (hc k hkn)
      have HFk := HF.out k hkn
      have HX : Hid (boxesF sF es (k + 1) = upd (boxesF sF es k) (es k).key (sF (es k))) := rfl
      generalize hE : es k = e at HR HFk HX
      clear hc hE
      have HFk := Lib.hid HFk
      have hj0 : (0 : Int) ≤ (k : Int) := by omega
      have hj1 : (k : Int) < (n : Int) := by omega
      go_wp2_with (first | (refine wpList_load_mid rfl 30 _ rfl g (k * 8) rfl _ _ HR.out Tryz.underlying30 rfl size30 ?_) | (refine wpList_store_row rfl 30 _ _ rfl wr.heap.size e.cells.toArray rfl rfl 30 _ (heap_alloc_new _ _) size30 rfl (by simp [Value.oneCell']) ?_))
      generalize hWW : World.setRow _ _ _ = W
      have hrow : W.heap[wr.heap.size]? = some (.cells e.cells.toArray 30 (0, 0)) := by rw [← hWW]; exact setRow_heap _ _ _ _ _ _ (heap_alloc_new _ _)
      have hsz : W.heap.size = wr.heap.size + 1 := by rw [← hWW]; simp [World.setRow]
      have hWb : Below wr.heap.size wr W := by rw [← hWW]; exact below_setRow (below_alloc wr _) (Nat.le_refl _) _
      have hmW : W.heap[w.heap.size]? = some (mobj (boxesF sF es k)) := held_on HM.out hWb
      clear hWW HR
      have HWb := Lib.hid hWb
      have HSz := Lib.hid hsz
      have hmWd : W.drew.heap[w.heap.size]? = some (mobj (boxesF sF es k)) := hmW
      have HMW := Lib.hid hmWd
      clear hWb hsz hmW hmWd
      refine Hid.out ?_
      obtain ⟨xb, hxb⟩ : ∃ xb, xb = wr.heap.size := ⟨_, rfl⟩
      rw [← hxb] at hrow ⊢
      have HXb := Lib.hid hxb
      clear hxb
      refine Lib.hid ?_
      have hV := fun w => clo_s e w
      generalize sF e = bx at hV HX
      have HV := Lib.hid hV
      clear hV
      obtain ⟨H, hH⟩ : ∃ H, H = w.heap.size := ⟨_, rfl⟩
      have hU : ∀ w' : World, w'.heap[w.heap.size]? = some (mobj (boxesF sF es k)) → (Instr.mapUpdate 49 (.map (some w.heap.size)) (.string e.key) bx).run Tryz.prog w' = .ok () (setO w' w.heap.size (mobj (upd (boxesF sF es k) e.key bx))) := fun w' h => run_mapUpd Tryz.underlying49 Tryz.underlying9 w' _ _ _ _ h
      have hL0 : ∀ w' : World, w'.heap[xb]? = some (Obj.cells e.cells.toArray 30 (0, 0)) → w'.cell? ⟨xb, 0, none⟩ = some (.string e.key) := fun w' h => by simp [World.cell?, h]
      have hL1 : ∀ w' : World, w'.heap[xb]? = some (Obj.cells e.cells.toArray 30 (0, 0)) → w'.cell? ⟨xb, 1, none⟩ = some (.int .i64 e.k) := fun w' h => by simp [World.cell?, h]
      have hL2 : ∀ w' : World, w'.heap[xb]? = some (Obj.cells e.cells.toArray 30 (0, 0)) → w'.cell? ⟨xb, 2, none⟩ = some (.int .i64 e.i) := fun w' h => by simp [World.cell?, h]
      have hL3 : ∀ w' : World, w'.heap[xb]? = some (Obj.cells e.cells.toArray 30 (0, 0)) → w'.cell? ⟨xb, 3, none⟩ = some (.int .u64 e.u) := fun w' h => by simp [World.cell?, h]
      have hL4 : ∀ w' : World, w'.heap[xb]? = some (Obj.cells e.cells.toArray 30 (0, 0)) → w'.cell? ⟨xb, 4, none⟩ = some (.float .f64 e.f) := fun w' h => by simp [World.cell?, h]
      have hL5 : ∀ w' : World, w'.heap[xb]? = some (Obj.cells e.cells.toArray 30 (0, 0)) → w'.cell? ⟨xb, 5, none⟩ = some (.string e.s) := fun w' h => by simp [World.cell?, h]
      have hL6 : ∀ w' : World, w'.heap[xb]? = some (Obj.cells e.cells.toArray 30 (0, 0)) → w'.cell? ⟨xb, 6, none⟩ = some (.slice none 0 0) := fun w' h => by simp [World.cell?, h]
      have hL7 : ∀ w' : World, w'.heap[xb]? = some (Obj.cells e.cells.toArray 30 (0, 0)) → w'.cell? ⟨xb, 7, none⟩ = some (.slice none 0 0) := fun w' h => by simp [World.cell?, h]
      have HWd := Lib.hid (HWb.out.drew)
      have hXne : xb ≠ w.heap.size := by have h1 := HXb.out; have h2 := HS.out; omega
      have hrowd : W.drew.heap[xb]? = some (.cells e.cells.toArray 30 (0, 0)) := hrow
      go_region_held3 (fun w' => w'.heap[xb]? = some (.cells e.cells.toArray 30 (0, 0)))
        (first | (with_reducible assumption) | exact (setO_other _ _ _ _ hXne).trans hk2)
        (first
          | (go_at_call 94; refine (HV.out _).mono ?_; rintro r w2 ⟨rfl, hb2⟩; have hk2 := held_on (by assumption) hb2; have hm2 := held_on HMW.out hb2; have hB2 := belowOn HWd.out hb2))
      all_goals
        have hfin : (setO w2 w.heap.size (mobj (upd (boxesF sF es k) e.key bx))).heap[w.heap.size]? = some (mobj (boxesF sF es (k + 1))) := by
          rw [HX.out]
          exact setO_heap _ _ _ (by have h1 := HBel.out.size; have h2 := hB2.size; have h3 := HS.out; omega)
        have hsz3 : w.heap.size + 1 ≤ (setO w2 w.heap.size (mobj (upd (boxesF sF es k) e.key bx))).heap.size := by
          rw [setO_size]; have h2 := hB2.size; have h3 := HS.out; omega
        have hbel3 : Below w.heap.size w (setO w2 w.heap.size (mobj (upd (boxesF sF es k) e.key bx))) := below_setO (belowOn HBel.out hB2) (Nat.le_refl _) _
        have HFin := Lib.hid hfin
        have HSz3 := Lib.hid hsz3
        have HBel3 := Lib.hid hbel3
        clear hfin hsz3 hbel3
        go_wp2
        all_goals exact ⟨⟨k + 1, by omega, by simp, HBel3.out, HFin.out, HSz3.out⟩, by simp [intOf]; omega⟩
    · have hkn' : k = n := by omega
      subst hkn'
      go_wp2
      go_ret
      exact ⟨_, rfl, Nat.le_refl _, HM.out, HBel.out⟩

theorem keyed_i (p : Option Addr) (n cap : Nat) (es : Nat → Ent) (w : World) (hL : Lst w p n cap es) (hF : ∀ j, j < n → (es j).Fine) :
    Calls Tryz.prog 95 #[.slice p n cap, .func (.func 96) #[] #[]] w fun r w' => ∃ H, r = .returned (.map (some H)) ∧ w.heap.size ≤ H ∧ w'.heap[H]? = some (mobj (boxesF iF es n)) ∧ Below w.heap.size w w' := by
  have h1 := hL.le
  have h2 := hL.n60
  have HL := Lib.hid hL
  have HF := Lib.hid hF
  clear hL hF
  have hmm := @run_makeMap Tryz.prog
  go_enter Tryz.func95, Tryz.ntmps95
  go_wp2
  have h0 : (w.alloc (mobj [])).heap[w.heap.size]? = some (mobj []) := heap_alloc_new _ _
  go_loopw [11] (fun i wr => ∃ k : Nat, k ≤ n ∧ i = .int .i64 k ∧ Below w.heap.size w wr ∧ wr.heap[w.heap.size]? = some (mobj (boxesF iF es k)) ∧ w.heap.size + 1 ≤ wr.heap.size) (fun i _ => n - (intOf i).toNat)
  case atStart => exact ⟨0, Nat.zero_le _, rfl, below_alloc _ _, h0, by simp⟩
  case round =>
    obtain ⟨k, hk, rfl, hb, hmap, hsz0⟩ := hrel
    have HBel := Lib.hid hb
    have HL2 := Lib.hid (HL.out.on hb)
    have HM := Lib.hid hmap
    have HS := Lib.hid hsz0
    clear hb hmap hsz0
    by_cases hkn : k < n
    · obtain ⟨g, rfl, hg, hc⟩ := HL2.out.at0 (by omega)
      have HR := Lib.hid (hc k hkn)
      have HFk := HF.out k hkn
      have HX : Hid (boxesF iF es (k + 1) = upd (boxesF iF es k) (es k).key (iF (es k))) := rfl
      generalize hE : es k = e at HR HFk HX
      clear hc hE
      have HFk := Lib.hid HFk
      have hj0 : (0 : Int) ≤ (k : Int) := by omega
      have hj1 : (k : Int) < (n : Int) := by omega
      go_wp2_with (first | (refine wpList_load_mid rfl 30 _ rfl g (k * 8) rfl _ _ HR.out Tryz.underlying30 rfl size30 ?_) | (refine wpList_store_row rfl 30 _ _ rfl wr.heap.size e.cells.toArray rfl rfl 30 _ (heap_alloc_new _ _) size30 rfl (by simp [Value.oneCell']) ?_))
      generalize hWW : World.setRow _ _ _ = W
      have hrow : W.heap[wr.heap.size]? = some (.cells e.cells.toArray 30 (0, 0)) := by rw [← hWW]; exact setRow_heap _ _ _ _ _ _ (heap_alloc_new _ _)
      have hsz : W.heap.size = wr.heap.size + 1 := by rw [← hWW]; simp [World.setRow]
      have hWb : Below wr.heap.size wr W := by rw [← hWW]; exact below_setRow (below_alloc wr _) (Nat.le_refl _) _
      have hmW : W.heap[w.heap.size]? = some (mobj (boxesF iF es k)) := held_on HM.out hWb
      clear hWW HR
      have HWb := Lib.hid hWb
      have HSz := Lib.hid hsz
      have hmWd : W.drew.heap[w.heap.size]? = some (mobj (boxesF iF es k)) := hmW
      have HMW := Lib.hid hmWd
      clear hWb hsz hmW hmWd
      refine Hid.out ?_
      obtain ⟨xb, hxb⟩ : ∃ xb, xb = wr.heap.size := ⟨_, rfl⟩
      rw [← hxb] at hrow ⊢
      have HXb := Lib.hid hxb
      clear hxb
      refine Lib.hid ?_
      have hV := fun w => clo_i e w
      generalize iF e = bx at hV HX
      have HV := Lib.hid hV
      clear hV
      obtain ⟨H, hH⟩ : ∃ H, H = w.heap.size := ⟨_, rfl⟩
      have hU : ∀ w' : World, w'.heap[w.heap.size]? = some (mobj (boxesF iF es k)) → (Instr.mapUpdate 88 (.map (some w.heap.size)) (.string e.key) bx).run Tryz.prog w' = .ok () (setO w' w.heap.size (mobj (upd (boxesF iF es k) e.key bx))) := fun w' h => run_mapUpd Tryz.underlying88 Tryz.underlying9 w' _ _ _ _ h
      have hL0 : ∀ w' : World, w'.heap[xb]? = some (Obj.cells e.cells.toArray 30 (0, 0)) → w'.cell? ⟨xb, 0, none⟩ = some (.string e.key) := fun w' h => by simp [World.cell?, h]
      have hL1 : ∀ w' : World, w'.heap[xb]? = some (Obj.cells e.cells.toArray 30 (0, 0)) → w'.cell? ⟨xb, 1, none⟩ = some (.int .i64 e.k) := fun w' h => by simp [World.cell?, h]
      have hL2 : ∀ w' : World, w'.heap[xb]? = some (Obj.cells e.cells.toArray 30 (0, 0)) → w'.cell? ⟨xb, 2, none⟩ = some (.int .i64 e.i) := fun w' h => by simp [World.cell?, h]
      have hL3 : ∀ w' : World, w'.heap[xb]? = some (Obj.cells e.cells.toArray 30 (0, 0)) → w'.cell? ⟨xb, 3, none⟩ = some (.int .u64 e.u) := fun w' h => by simp [World.cell?, h]
      have hL4 : ∀ w' : World, w'.heap[xb]? = some (Obj.cells e.cells.toArray 30 (0, 0)) → w'.cell? ⟨xb, 4, none⟩ = some (.float .f64 e.f) := fun w' h => by simp [World.cell?, h]
      have hL5 : ∀ w' : World, w'.heap[xb]? = some (Obj.cells e.cells.toArray 30 (0, 0)) → w'.cell? ⟨xb, 5, none⟩ = some (.string e.s) := fun w' h => by simp [World.cell?, h]
      have hL6 : ∀ w' : World, w'.heap[xb]? = some (Obj.cells e.cells.toArray 30 (0, 0)) → w'.cell? ⟨xb, 6, none⟩ = some (.slice none 0 0) := fun w' h => by simp [World.cell?, h]
      have hL7 : ∀ w' : World, w'.heap[xb]? = some (Obj.cells e.cells.toArray 30 (0, 0)) → w'.cell? ⟨xb, 7, none⟩ = some (.slice none 0 0) := fun w' h => by simp [World.cell?, h]
      have HWd := Lib.hid (HWb.out.drew)
      have hXne : xb ≠ w.heap.size := by have h1 := HXb.out; have h2 := HS.out; omega
      have hrowd : W.drew.heap[xb]? = some (.cells e.cells.toArray 30 (0, 0)) := hrow
      go_region_held3 (fun w' => w'.heap[xb]? = some (.cells e.cells.toArray 30 (0, 0)))
        (first | (with_reducible assumption) | exact (setO_other _ _ _ _ hXne).trans hk2)
        (first
          | (go_at_call 96; refine (HV.out _).mono ?_; rintro r w2 ⟨rfl, hb2⟩; have hk2 := held_on (by assumption) hb2; have hm2 := held_on HMW.out hb2; have hB2 := belowOn HWd.out hb2))
      all_goals
        have hfin : (setO w2 w.heap.size (mobj (upd (boxesF iF es k) e.key bx))).heap[w.heap.size]? = some (mobj (boxesF iF es (k + 1))) := by
          rw [HX.out]
          exact setO_heap _ _ _ (by have h1 := HBel.out.size; have h2 := hB2.size; have h3 := HS.out; omega)
        have hsz3 : w.heap.size + 1 ≤ (setO w2 w.heap.size (mobj (upd (boxesF iF es k) e.key bx))).heap.size := by
          rw [setO_size]; have h2 := hB2.size; have h3 := HS.out; omega
        have hbel3 : Below w.heap.size w (setO w2 w.heap.size (mobj (upd (boxesF iF es k) e.key bx))) := below_setO (belowOn HBel.out hB2) (Nat.le_refl _) _
        have HFin := Lib.hid hfin
        have HSz3 := Lib.hid hsz3
        have HBel3 := Lib.hid hbel3
        clear hfin hsz3 hbel3
        go_wp2
        all_goals exact ⟨⟨k + 1, by omega, by simp, HBel3.out, HFin.out, HSz3.out⟩, by simp [intOf]; omega⟩
    · have hkn' : k = n := by omega
      subst hkn'
      go_wp2
      go_ret
      exact ⟨_, rfl, Nat.le_refl _, HM.out, HBel.out⟩

theorem keyed_b (p : Option Addr) (n cap : Nat) (es : Nat → Ent) (w : World) (hL : Lst w p n cap es) (hF : ∀ j, j < n → (es j).Fine) :
    Calls Tryz.prog 97 #[.slice p n cap, .func (.func 98) #[] #[]] w fun r w' => ∃ H, r = .returned (.map (some H)) ∧ w.heap.size ≤ H ∧ w'.heap[H]? = some (mobj (boxesF bF es n)) ∧ Below w.heap.size w w' := by
  have h1 := hL.le
  have h2 := hL.n60
  have HL := Lib.hid hL
  have HF := Lib.hid hF
  clear hL hF
  have hmm := @run_makeMap Tryz.prog
  go_enter Tryz.func97, Tryz.ntmps97
  go_wp2
  have h0 : (w.alloc (mobj [])).heap[w.heap.size]? = some (mobj []) := heap_alloc_new _ _
  go_loopw [11] (fun i wr => ∃ k : Nat, k ≤ n ∧ i = .int .i64 k ∧ Below w.heap.size w wr ∧ wr.heap[w.heap.size]? = some (mobj (boxesF bF es k)) ∧ w.heap.size + 1 ≤ wr.heap.size) (fun i _ => n - (intOf i).toNat)
  case atStart => exact ⟨0, Nat.zero_le _, rfl, below_alloc _ _, h0, by simp⟩
  case round =>
    obtain ⟨k, hk, rfl, hb, hmap, hsz0⟩ := hrel
    have HBel := Lib.hid hb
    have HL2 := Lib.hid (HL.out.on hb)
    have HM := Lib.hid hmap
    have HS := Lib.hid hsz0
    clear hb hmap hsz0
    by_cases hkn : k < n
    · obtain ⟨g, rfl, hg, hc⟩ := HL2.out.at0 (by omega)
      have HR := Lib.hid (hc k hkn)
      have HFk := HF.out k hkn
      have HX : Hid (boxesF bF es (k + 1) = upd (boxesF bF es k) (es k).key (bF (es k))) := rfl
      generalize hE : es k = e at HR HFk HX
      clear hc hE
      have HFk := Lib.hid HFk
      have hj0 : (0 : Int) ≤ (k : Int) := by omega
      have hj1 : (k : Int) < (n : Int) := by omega
      go_wp2_with (first | (refine wpList_load_mid rfl 30 _ rfl g (k * 8) rfl _ _ HR.out Tryz.underlying30 rfl size30 ?_) | (refine wpList_store_row rfl 30 _ _ rfl wr.heap.size e.cells.toArray rfl rfl 30 _ (heap_alloc_new _ _) size30 rfl (by simp [Value.oneCell']) ?_))
      generalize hWW : World.setRow _ _ _ = W
      have hrow : W.heap[wr.heap.size]? = some (.cells e.cells.toArray 30 (0, 0)) := by rw [← hWW]; exact setRow_heap _ _ _ _ _ _ (heap_alloc_new _ _)
      have hsz : W.heap.size = wr.heap.size + 1 := by rw [← hWW]; simp [World.setRow]
      have hWb : Below wr.heap.size wr W := by rw [← hWW]; exact below_setRow (below_alloc wr _) (Nat.le_refl _) _
      have hmW : W.heap[w.heap.size]? = some (mobj (boxesF bF es k)) := held_on HM.out hWb
      clear hWW HR
      have HWb := Lib.hid hWb
      have HSz := Lib.hid hsz
      have hmWd : W.drew.heap[w.heap.size]? = some (mobj (boxesF bF es k)) := hmW
      have HMW := Lib.hid hmWd
      clear hWb hsz hmW hmWd
      refine Hid.out ?_
      obtain ⟨xb, hxb⟩ : ∃ xb, xb = wr.heap.size := ⟨_, rfl⟩
      rw [← hxb] at hrow ⊢
      have HXb := Lib.hid hxb
      clear hxb
      refine Lib.hid ?_
      have hV := fun w => clo_b e w
      generalize bF e = bx at hV HX
      have HV := Lib.hid hV
      clear hV
      obtain ⟨H, hH⟩ : ∃ H, H = w.heap.size := ⟨_, rfl⟩
      have hU : ∀ w' : World, w'.heap[w.heap.size]? = some (mobj (boxesF bF es k)) → (Instr.mapUpdate 33 (.map (some w.heap.size)) (.string e.key) bx).run Tryz.prog w' = .ok () (setO w' w.heap.size (mobj (upd (boxesF bF es k) e.key bx))) := fun w' h => run_mapUpd Tryz.underlying33 Tryz.underlying9 w' _ _ _ _ h
      have hL0 : ∀ w' : World, w'.heap[xb]? = some (Obj.cells e.cells.toArray 30 (0, 0)) → w'.cell? ⟨xb, 0, none⟩ = some (.string e.key) := fun w' h => by simp [World.cell?, h]
      have hL1 : ∀ w' : World, w'.heap[xb]? = some (Obj.cells e.cells.toArray 30 (0, 0)) → w'.cell? ⟨xb, 1, none⟩ = some (.int .i64 e.k) := fun w' h => by simp [World.cell?, h]
      have hL2 : ∀ w' : World, w'.heap[xb]? = some (Obj.cells e.cells.toArray 30 (0, 0)) → w'.cell? ⟨xb, 2, none⟩ = some (.int .i64 e.i) := fun w' h => by simp [World.cell?, h]
      have hL3 : ∀ w' : World, w'.heap[xb]? = some (Obj.cells e.cells.toArray 30 (0, 0)) → w'.cell? ⟨xb, 3, none⟩ = some (.int .u64 e.u) := fun w' h => by simp [World.cell?, h]
      have hL4 : ∀ w' : World, w'.heap[xb]? = some (Obj.cells e.cells.toArray 30 (0, 0)) → w'.cell? ⟨xb, 4, none⟩ = some (.float .f64 e.f) := fun w' h => by simp [World.cell?, h]
      have hL5 : ∀ w' : World, w'.heap[xb]? = some (Obj.cells e.cells.toArray 30 (0, 0)) → w'.cell? ⟨xb, 5, none⟩ = some (.string e.s) := fun w' h => by simp [World.cell?, h]
      have hL6 : ∀ w' : World, w'.heap[xb]? = some (Obj.cells e.cells.toArray 30 (0, 0)) → w'.cell? ⟨xb, 6, none⟩ = some (.slice none 0 0) := fun w' h => by simp [World.cell?, h]
      have hL7 : ∀ w' : World, w'.heap[xb]? = some (Obj.cells e.cells.toArray 30 (0, 0)) → w'.cell? ⟨xb, 7, none⟩ = some (.slice none 0 0) := fun w' h => by simp [World.cell?, h]
      have HWd := Lib.hid (HWb.out.drew)
      have hXne : xb ≠ w.heap.size := by have h1 := HXb.out; have h2 := HS.out; omega
      have hrowd : W.drew.heap[xb]? = some (.cells e.cells.toArray 30 (0, 0)) := hrow
      go_region_held3 (fun w' => w'.heap[xb]? = some (.cells e.cells.toArray 30 (0, 0)))
        (first | (with_reducible assumption) | exact (setO_other _ _ _ _ hXne).trans hk2)
        (first
          | (go_at_call 98; refine (HV.out _).mono ?_; rintro r w2 ⟨rfl, hb2⟩; have hk2 := held_on (by assumption) hb2; have hm2 := held_on HMW.out hb2; have hB2 := belowOn HWd.out hb2))
      all_goals
        have hfin : (setO w2 w.heap.size (mobj (upd (boxesF bF es k) e.key bx))).heap[w.heap.size]? = some (mobj (boxesF bF es (k + 1))) := by
          rw [HX.out]
          exact setO_heap _ _ _ (by have h1 := HBel.out.size; have h2 := hB2.size; have h3 := HS.out; omega)
        have hsz3 : w.heap.size + 1 ≤ (setO w2 w.heap.size (mobj (upd (boxesF bF es k) e.key bx))).heap.size := by
          rw [setO_size]; have h2 := hB2.size; have h3 := HS.out; omega
        have hbel3 : Below w.heap.size w (setO w2 w.heap.size (mobj (upd (boxesF bF es k) e.key bx))) := below_setO (belowOn HBel.out hB2) (Nat.le_refl _) _
        have HFin := Lib.hid hfin
        have HSz3 := Lib.hid hsz3
        have HBel3 := Lib.hid hbel3
        clear hfin hsz3 hbel3
        go_wp2
        all_goals exact ⟨⟨k + 1, by omega, by simp, HBel3.out, HFin.out, HSz3.out⟩, by simp [intOf]; omega⟩
    · have hkn' : k = n := by omega
      subst hkn'
      go_wp2
      go_ret
      exact ⟨_, rfl, Nat.le_refl _, HM.out, HBel.out⟩

/-- What a call of the function value fn makes of v. -/
def Does2 (fn : FuncId) (v r : Value) : Prop := ∀ w, Good2 w → Calls Tryz.prog fn #[v] w fun e w' => e = .returned r ∧ Below w.heap.size w w'

theorem keys_i (H : Nat) (l : Pairs) (f : Value → Value) (w : World) (hg : Good2 w) (hd : Dis l) (hH : w.heap[H]? = some (mobj l)) (hf : ∀ (j : Nat) (p : ByteArray × Value), l[j]? = some p → Does2 52 p.2 (f p.2)) (hsmall : l.length ≤ 60) :
    Calls Tryz.prog 51 #[.map (some H), .func (.func 52) #[] #[]] w fun r w' => ∃ O m, r = .returned (.map (some O)) ∧ w.heap.size ≤ O ∧ w'.heap[O]? = some (mobj m) ∧ (m.length = l.length ∧ ∀ k, lk2 k m = (lk2 k l).map f) ∧ Below w.heap.size w w' := by
  have HG := Lib.hid hg
  have HH := Lib.hid hH
  have HF := Lib.hid hf
  have HD := Lib.hid hd
  have hHlt : H < w.heap.size := (Array.getElem?_eq_some_iff.1 hH).1
  clear hg hH hf hd
  have hmm := @run_makeMap Tryz.prog
  have hR : ∀ w' : World, w'.heap[H]? = some (mobj l) → (Instr.range 88 (.map (some H))).run Tryz.prog w' = .ok (.pointer (some ⟨w'.heap.size, 0, none⟩)) (w'.alloc (.mapIter (some H) l.length #[] l.length)) := fun w' h => run_rangeM Tryz.underlying88 _ _ _ h
  have hA := hR (w.alloc (mobj [])) (held_on HH.out (below_alloc w _))
  clear hR
  have e0 : mobj [] = .map #[] 0 := rfl
  rw [e0] at hA
  go_enter Tryz.func51, Tryz.ntmps51
  go_wp2_with fail
  clear hA
  generalize hWW : World.alloc (World.alloc w _) _ = W
  have hWb : Below w.heap.size w W := by rw [← hWW]; exact below_two w _ _
  have hWO : W.heap[w.heap.size]? = some (mobj []) := by rw [← hWW]; exact heap_alloc2_old w _ _
  have hWI : W.heap[w.heap.size + 1]? = some (.mapIter (some H) l.length #[] l.length) := by rw [← hWW]; exact heap_alloc2_new w _ _
  clear hWW
  go_loopw [] (fun wr => ∃ seen m, Below w.heap.size w wr ∧ wr.heap[w.heap.size]? = some (mobj m) ∧ wr.heap[w.heap.size + 1]? = some (.mapIter (some H) l.length seen l.length) ∧ Gath l f seen m) (fun wr => l.length - seenSz wr (w.heap.size + 1))
  case atStart => exact ⟨_, _, hWb, hWO, hWI, gath_start l f⟩
  case round =>
    obtain ⟨seen, m, hb, hO, hI, hgath⟩ := hrel
    have hHr : wr.heap[H]? = some (mobj l) := held_on HH.out hb
    have HHr := Lib.hid hHr
    have HO := Lib.hid hO
    have HI := Lib.hid hI
    have HGa := Lib.hid hgath
    have HBel := Lib.hid hb
    clear hHr hO hI hgath hb
    rcases run_nextM (P := Tryz.prog) wr 0 (w.heap.size + 1) H l seen HI.out HHr.out with ⟨hall, hrun⟩ | ⟨j, ⟨k, v⟩, nn, hj, hs, hrun⟩
    · have HA := Lib.hid hall
      clear hall
      go_wp2_with fail
      go_ret
      exact ⟨_, m, rfl, Nat.le_refl _, HO.out, gath_end HGa.out HA.out, HBel.out⟩
    · have HJ := Lib.hid hj
      have HSn := Lib.hid hs
      clear hj hs
      generalize hW1 : setO (wr.drewN nn) (w.heap.size + 1) _ = W1 at hrun
      have hI1 : W1.heap[w.heap.size + 1]? = some (.mapIter (some H) l.length (seen.push j) l.length) := by
        rw [← hW1]; exact setO_heap _ _ _ (Array.getElem?_eq_some_iff.1 HI.out).1
      have hO1 : W1.heap[w.heap.size]? = some (mobj m) := by rw [← hW1, setO_other _ _ _ _ (by omega)]; exact HO.out
      have hH1 : W1.heap[H]? = some (mobj l) := by rw [← hW1, setO_other _ _ _ _ (by omega)]; exact HHr.out
      have hb1 : Below w.heap.size w W1 := by rw [← hW1]; exact below_setO (belowOn HBel.out (below_drewN _ _)) (by omega) _
      have hE := run_entryM (P := Tryz.prog) W1 (w.heap.size + 1) H l seen j (k, v) hI1 hH1 HJ.out
      have hg1 := HG.out.on hb1
      have HI1 := Lib.hid hI1
      have HO1 := Lib.hid hO1
      have HB1 := Lib.hid hb1
      have HG1 := Lib.hid hg1
      clear hW1 hI1 hO1 hH1 hb1 hg1
      have hU : ∀ w' : World, w'.heap[w.heap.size]? = some (mobj m) → (Instr.mapUpdate 52 (.map (some w.heap.size)) (.string k) (f v)).run Tryz.prog w' = .ok () (setO w' w.heap.size (mobj (upd m k (f v)))) := fun w' h => run_mapUpd Tryz.underlying52 Tryz.underlying9 w' _ _ _ _ h
      go_wp2_with (go_at_call 52; refine (HF.out j _ HJ.out _ HG1.out).mono ?_; rintro r w2 ⟨rfl, hb2⟩; have hm2 := held_on HO1.out hb2; have hi2 := Lib.hid (held_on HI1.out hb2))
      have hgn := gath_step HD.out HGa.out HJ.out HSn.out
      have hI3 : (setO w2 w.heap.size (mobj (upd m k (f v)))).heap[w.heap.size + 1]? = some (.mapIter (some H) l.length (seen.push j) l.length) := by
        rw [setO_other _ _ _ _ (by omega)]; exact hi2.out
      have hO3 : (setO w2 w.heap.size (mobj (upd m k (f v)))).heap[w.heap.size]? = some (mobj (upd m k (f v))) := setO_heap _ _ _ (Array.getElem?_eq_some_iff.1 hm2).1
      refine ⟨⟨_, _, below_setO (belowOn HB1.out hb2) (Nat.le_refl _) _, hO3, hI3, hgn⟩, ?_⟩
      have h1 := gath_le hgn
      have e1 : seenSz wr (w.heap.size + 1) = seen.size := by unfold seenSz; rw [HI.out]
      have e2 : seenSz (setO w2 w.heap.size (mobj (upd m k (f v)))) (w.heap.size + 1) = seen.size + 1 := by unfold seenSz; rw [hI3]; simp
      rw [e1, e2]
      simp only [Array.size_push] at h1
      omega

theorem keys_a (H : Nat) (l : Pairs) (f : Value → Value) (w : World) (hg : Good2 w) (hd : Dis l) (hH : w.heap[H]? = some (mobj l)) (hf : ∀ (j : Nat) (p : ByteArray × Value), l[j]? = some p → Does2 55 p.2 (f p.2)) (hsmall : l.length ≤ 60) :
    Calls Tryz.prog 54 #[.map (some H), .func (.func 55) #[] #[]] w fun r w' => ∃ O m, r = .returned (.map (some O)) ∧ w.heap.size ≤ O ∧ w'.heap[O]? = some (mobj m) ∧ (m.length = l.length ∧ ∀ k, lk2 k m = (lk2 k l).map f) ∧ Below w.heap.size w w' := by
  have HG := Lib.hid hg
  have HH := Lib.hid hH
  have HF := Lib.hid hf
  have HD := Lib.hid hd
  have hHlt : H < w.heap.size := (Array.getElem?_eq_some_iff.1 hH).1
  clear hg hH hf hd
  have hmm := @run_makeMap Tryz.prog
  have hR : ∀ w' : World, w'.heap[H]? = some (mobj l) → (Instr.range 93 (.map (some H))).run Tryz.prog w' = .ok (.pointer (some ⟨w'.heap.size, 0, none⟩)) (w'.alloc (.mapIter (some H) l.length #[] l.length)) := fun w' h => run_rangeM Tryz.underlying93 _ _ _ h
  have hA := hR (w.alloc (mobj [])) (held_on HH.out (below_alloc w _))
  clear hR
  have e0 : mobj [] = .map #[] 0 := rfl
  rw [e0] at hA
  go_enter Tryz.func54, Tryz.ntmps54
  go_wp2_with fail
  clear hA
  generalize hWW : World.alloc (World.alloc w _) _ = W
  have hWb : Below w.heap.size w W := by rw [← hWW]; exact below_two w _ _
  have hWO : W.heap[w.heap.size]? = some (mobj []) := by rw [← hWW]; exact heap_alloc2_old w _ _
  have hWI : W.heap[w.heap.size + 1]? = some (.mapIter (some H) l.length #[] l.length) := by rw [← hWW]; exact heap_alloc2_new w _ _
  clear hWW
  go_loopw [] (fun wr => ∃ seen m, Below w.heap.size w wr ∧ wr.heap[w.heap.size]? = some (mobj m) ∧ wr.heap[w.heap.size + 1]? = some (.mapIter (some H) l.length seen l.length) ∧ Gath l f seen m) (fun wr => l.length - seenSz wr (w.heap.size + 1))
  case atStart => exact ⟨_, _, hWb, hWO, hWI, gath_start l f⟩
  case round =>
    obtain ⟨seen, m, hb, hO, hI, hgath⟩ := hrel
    have hHr : wr.heap[H]? = some (mobj l) := held_on HH.out hb
    have HHr := Lib.hid hHr
    have HO := Lib.hid hO
    have HI := Lib.hid hI
    have HGa := Lib.hid hgath
    have HBel := Lib.hid hb
    clear hHr hO hI hgath hb
    rcases run_nextM (P := Tryz.prog) wr 0 (w.heap.size + 1) H l seen HI.out HHr.out with ⟨hall, hrun⟩ | ⟨j, ⟨k, v⟩, nn, hj, hs, hrun⟩
    · have HA := Lib.hid hall
      clear hall
      go_wp2_with fail
      go_ret
      exact ⟨_, m, rfl, Nat.le_refl _, HO.out, gath_end HGa.out HA.out, HBel.out⟩
    · have HJ := Lib.hid hj
      have HSn := Lib.hid hs
      clear hj hs
      generalize hW1 : setO (wr.drewN nn) (w.heap.size + 1) _ = W1 at hrun
      have hI1 : W1.heap[w.heap.size + 1]? = some (.mapIter (some H) l.length (seen.push j) l.length) := by
        rw [← hW1]; exact setO_heap _ _ _ (Array.getElem?_eq_some_iff.1 HI.out).1
      have hO1 : W1.heap[w.heap.size]? = some (mobj m) := by rw [← hW1, setO_other _ _ _ _ (by omega)]; exact HO.out
      have hH1 : W1.heap[H]? = some (mobj l) := by rw [← hW1, setO_other _ _ _ _ (by omega)]; exact HHr.out
      have hb1 : Below w.heap.size w W1 := by rw [← hW1]; exact below_setO (belowOn HBel.out (below_drewN _ _)) (by omega) _
      have hE := run_entryM (P := Tryz.prog) W1 (w.heap.size + 1) H l seen j (k, v) hI1 hH1 HJ.out
      have hg1 := HG.out.on hb1
      have HI1 := Lib.hid hI1
      have HO1 := Lib.hid hO1
      have HB1 := Lib.hid hb1
      have HG1 := Lib.hid hg1
      clear hW1 hI1 hO1 hH1 hb1 hg1
      have hU : ∀ w' : World, w'.heap[w.heap.size]? = some (mobj m) → (Instr.mapUpdate 49 (.map (some w.heap.size)) (.string k) (f v)).run Tryz.prog w' = .ok () (setO w' w.heap.size (mobj (upd m k (f v)))) := fun w' h => run_mapUpd Tryz.underlying49 Tryz.underlying9 w' _ _ _ _ h
      go_wp2_with (go_at_call 55; refine (HF.out j _ HJ.out _ HG1.out).mono ?_; rintro r w2 ⟨rfl, hb2⟩; have hm2 := held_on HO1.out hb2; have hi2 := Lib.hid (held_on HI1.out hb2))
      have hgn := gath_step HD.out HGa.out HJ.out HSn.out
      have hI3 : (setO w2 w.heap.size (mobj (upd m k (f v)))).heap[w.heap.size + 1]? = some (.mapIter (some H) l.length (seen.push j) l.length) := by
        rw [setO_other _ _ _ _ (by omega)]; exact hi2.out
      have hO3 : (setO w2 w.heap.size (mobj (upd m k (f v)))).heap[w.heap.size]? = some (mobj (upd m k (f v))) := setO_heap _ _ _ (Array.getElem?_eq_some_iff.1 hm2).1
      refine ⟨⟨_, _, below_setO (belowOn HB1.out hb2) (Nat.le_refl _) _, hO3, hI3, hgn⟩, ?_⟩
      have h1 := gath_le hgn
      have e1 : seenSz wr (w.heap.size + 1) = seen.size := by unfold seenSz; rw [HI.out]
      have e2 : seenSz (setO w2 w.heap.size (mobj (upd m k (f v)))) (w.heap.size + 1) = seen.size + 1 := by unfold seenSz; rw [hI3]; simp
      rw [e1, e2]
      simp only [Array.size_push] at h1
      omega
end Go.Proofs.YtnggkkdcddpjlaaGreatDoor
