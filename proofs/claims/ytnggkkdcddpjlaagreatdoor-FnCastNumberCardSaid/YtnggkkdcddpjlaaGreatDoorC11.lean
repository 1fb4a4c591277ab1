/- impl.ToStringMapBool of the entries. -/
import Derived.Test.YtnggkkdcddpjlaaGreatDoorC10
namespace Go.Proofs.YtnggkkdcddpjlaaGreatDoor
open Go.RowKit
set_option maxRecDepth 100000
set_option linter.unusedVariables false
/-- What cast.ToBool makes of a boxed value. -/
def boxB : Value → Bool
  | .iface _ (.bool b) => b
  | .iface _ (.int _ n) => n != 0
  | .iface _ (.float k f) => k.format.order f 0 != some .eq
  | .iface _ (.string s) => (Lib.parseBool s.data.toList).getD false
  | _ => false
def boolF (v : Value) : Value := .bool (boxB v)
theorem boxB_box (e : Ent) (h : e.Fine) : boxB e.box = e.bv := by
  have hc := h.cases
  obtain ⟨key, k, i, u, f, s⟩ := e
  dsimp only at hc
  unfold Ent.bv Ent.bool? Ent.box
  dsimp only
  rcases hc with rfl | rfl | rfl | rfl | rfl | rfl | rfl | rfl | rfl | rfl | rfl | rfl | rfl | rfl | rfl <;> rfl
theorem does_bool (e : Ent) (h : e.Fine) : Does 42 e.box (boolF e.box) := fun w hg => by
  unfold boolF
  rw [boxB_box e h]
  exact castToBool e h w hg
/-- An Any of the entries. -/
abbrev mapAny (k : Int) (p : Option Addr) (n cap : Nat) : Value := .agg #[.int .i64 k, .int .i64 0, .int .u64 0, .float .f64 0, .string ⟨#[]⟩, .slice none 0 0, .slice p n cap]
theorem value_map (p : Option Addr) (n cap : Nat) (es : Nat → Ent) (w : World) (hL : Lst w p n cap es) (hF : ∀ j, j < n → (es j).Fine) :
    Calls Tryz.prog 40 #[mapAny 21 p n cap] w fun r w' => ∃ H, r = .returned (.iface 93 (.map (some H))) ∧ w.heap.size ≤ H ∧ w'.heap[H]? = some (mobj (boxes es n)) ∧ Below w.heap.size w w' := by
  have HK := Lib.hid (fun w (h : Lst w p n cap es) => keyed_any p n cap es w h hF)
  have HL := Lib.hid hL
  clear hL hF
  go_enter Tryz.func40, Tryz.ntmps40
  go_wp2_with (go_at_call 92; refine (HK.out _ (HL.out.on (below_alloc w _))).mono ?_; rintro r w2 ⟨H, rfl, hH, hm, hb2⟩)
  go_ret
  exact ⟨H, rfl, by simp at hH; omega, hm, belowOn (below_alloc w _) hb2⟩
/-- Every pair of the boxes is of an entry. -/
theorem boxes_of (es : Nat → Ent) (P : Value → Prop) : ∀ n, (∀ j, j < n → P (es j).box) → ∀ (j : Nat) (q : ByteArray × Value), (boxes es n)[j]? = some q → P q.2
  | 0, h, j, q, hq => by simp [boxes] at hq
  | n + 1, h, j, q, hq => by
    have ih := boxes_of es P n (fun j hj => h j (by omega))
    unfold boxes upd at hq
    split at hq
    · rename_i i v hl
      rw [List.getElem?_set] at hq
      split at hq
      · split at hq
        · cases hq
          exact h n (by omega)
        · cases hq
      · exact ih j q hq
    · rw [List.getElem?_append] at hq
      split at hq
      · exact ih j q hq
      · rw [List.getElem?_singleton] at hq
        split at hq
        · cases hq
          exact h n (by omega)
        · cases hq
theorem boxes_dis (es : Nat → Ent) : ∀ n, Dis (boxes es n)
  | 0 => dis_nil
  | n + 1 => dis_upd _ _ (boxes_dis es n)
theorem boxes_lk (es : Nat → Ent) (k : ByteArray) : ∀ n, lk2 k (boxes es n) = (last es k n).map Ent.box
  | 0 => rfl
  | n + 1 => by
    unfold boxes last
    rw [lk2_upd, boxes_lk es k n]
    by_cases h : (es n).key = k
    · rw [if_pos h.symm, if_pos h]; rfl
    · rw [if_neg (fun e => h e.symm), if_neg h]
theorem boxes_length (es : Nat → Ent) : ∀ n, (boxes es n).length = keysN es n
  | 0 => rfl
  | n + 1 => by
    unfold boxes keysN
    rw [upd_length, boxes_length es n, boxes_lk]
    cases last es (es n).key n <;> rfl
/-- What a map holds that was gathered from the entries by f. -/
structure Got (es : Nat → Ent) (n : Nat) (f : Value → Value) (m : Pairs) : Prop where
  len : m.length = keysN es n
  look : ∀ k, lk2 k m = (last es k n).map fun e => f e.box
theorem got_of {es : Nat → Ent} {n : Nat} {f : Value → Value} {m : Pairs} (h : m.length = (boxes es n).length ∧ ∀ k, lk2 k m = (lk2 k (boxes es n)).map f) : Got es n f m :=
  ⟨h.1.trans (boxes_length es n), fun k => by
    rw [h.2, boxes_lk]
    cases last es k n <;> rfl⟩
theorem strMap_bool (H : Nat) (l : Pairs) (f : Value → Value) (w : World) (hg : Good w) (hd : Dis l) (hH : w.heap[H]? = some (mobj l)) (hf : ∀ (j : Nat) (p : ByteArray × Value), l[j]? = some p → Does 42 p.2 (f p.2)) (hsmall : l.length ≤ 60) :
    Calls Tryz.prog 41 #[.iface 93 (.map (some H))] w fun r w' => ∃ O m, r = .returned (.tuple #[.map (some O), .nilIface]) ∧ w.heap.size ≤ O ∧ w'.heap[O]? = some (mobj m) ∧ (m.length = l.length ∧ ∀ k, lk2 k m = (lk2 k l).map f) ∧ Below w.heap.size w w' := by
  have HT := Lib.hid (toMap_bool H l f w hg hd hH hf hsmall)
  clear hg hd hH hf hsmall
  have H99 : Calls Tryz.prog 99 #[.iface 93 (.map (some H)), .func (.func 42) #[] #[]] w fun r w' => ∃ O m, r = .returned (.tuple #[.map (some O), .nilIface]) ∧ w.heap.size ≤ O ∧ w'.heap[O]? = some (mobj m) ∧ (m.length = l.length ∧ ∀ k, lk2 k m = (lk2 k l).map f) ∧ Below w.heap.size w w' := by
    go_enter Tryz.func99, Tryz.ntmps99
    go_wp2_with (go_at_call 137; refine HT.out.mono ?_; rintro r w3 ⟨O, m, rfl, hO, hmO, hgot, hb3⟩)
    go_ret2
    exact ⟨O, m, rfl, hO, hmO, hgot, hb3⟩
  clear HT
  have HT := Lib.hid H99
  clear H99
  go_enter Tryz.func41, Tryz.ntmps41
  go_wp2_with (go_at_call 99; refine HT.out.mono ?_; rintro r w3 ⟨O, m, rfl, hO, hmO, hgot, hb3⟩)
  go_ret2
  exact ⟨O, m, rfl, hO, hmO, hgot, hb3⟩
theorem map_bool (p : Option Addr) (n cap : Nat) (es : Nat → Ent) (w : World) (hg : Good w) (hL : Lst w p n cap es) (hF : ∀ j, j < n → (es j).Fine) :
    Calls Tryz.prog 10 #[mapAny 21 p n cap] w fun r w' => ∃ O m, r = .returned (.tuple #[.map (some O), .bool true]) ∧ w.heap.size ≤ O ∧ w'.heap[O]? = some (mobj m) ∧ Got es n boolF m ∧ Below w.heap.size w w' := by
  have HV := Lib.hid (fun w (h : Lst w p n cap es) => value_map p n cap es w h hF)
  have HT := Lib.hid (fun H w hg hH => strMap_bool H (boxes es n) boolF w hg (boxes_dis es n) hH (boxes_of es (fun v => Does 42 v (boolF v)) n (fun j hj => does_bool (es j) (hF j hj))) (by rw [boxes_length]; exact Nat.le_trans (keysN_le es n) hL.n60))
  have HL := Lib.hid hL
  have HG := Lib.hid hg
  clear hL hF hg
  go_enter Tryz.func10, Tryz.ntmps10
  go_wp2_with (first | (go_at_call 40; refine (HV.out _ (HL.out.on (below_alloc w _))).mono ?_; rintro r w2 ⟨H, rfl, hH, hm, hb2⟩; have hg2 := (HG.out.on (below_alloc w _)).on hb2) | (go_at_call 41; refine (HT.out H _ hg2 hm).mono ?_; rintro r w3 ⟨O, m, rfl, hO, hmO, hgot, hb3⟩))
  go_quiet (fail)
  go_wp2
  go_ret2
  exact ⟨O, m, rfl, by have := hb2.size; simp at this; omega, hmO, got_of hgot, belowOn (belowOn (below_alloc w _) (belowOn hb2 hb3)) (below_drewN _ _)⟩
end Go.Proofs.YtnggkkdcddpjlaaGreatDoor
