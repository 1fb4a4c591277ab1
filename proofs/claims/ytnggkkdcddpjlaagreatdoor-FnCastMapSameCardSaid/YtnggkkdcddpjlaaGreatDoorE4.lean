/- The doors of cast at maps of their own types: impl.ToStringMapString, ToStringMapInt, ToStringMapBool, ToStringMap, impl.CastString. -/
import Derived.Test.YtnggkkdcddpjlaaGreatDoorE3
namespace Go.Proofs.YtnggkkdcddpjlaaGreatDoor
open Go.RowKit
set_option maxRecDepth 100000
set_option linter.unusedVariables false
/-- The text that ToStringE gives of a box. -/
noncomputable def strOf (v : Value) : ByteArray := open Classical in if h : ∃ t, StrE v t then Classical.choose h else ⟨#[]⟩
theorem strOf_box (e : Ent) (h : e.Fine) (hn : e.Nice) : StrE e.box (strOf e.box) := by
  have hx := box_str e h hn
  unfold strOf
  rw [dif_pos hx]
  exact Classical.choose_spec hx
noncomputable def strF (v : Value) : Value := .string (strOf v)
theorem does_text (e : Ent) (h : e.Fine) (hn : e.Nice) : Does2 55 e.box (strF e.box) := fun w hg => by
  unfold strF
  have H := Lib.hid (strOf_box e h hn w hg)
  generalize strOf e.box = t at H ⊢
  generalize e.box = b at H ⊢
  clear h hn hg
  go_enter Tryz.func55, Tryz.ntmps55
  go_wp2_with (go_at_call 43; refine H.out.mono ?_; rintro r w' ⟨rfl, hb⟩)
  go_ret
  exact ⟨rfl, hb⟩
theorem does_str (e : Ent) (h : e.Fine) (hn : e.Nice) : Does2 56 e.box (strF e.box) := fun w hg => by
  unfold strF
  have H := Lib.hid (strOf_box e h hn w hg)
  generalize strOf e.box = t at H ⊢
  generalize e.box = b at H ⊢
  clear h hn hg
  go_enter Tryz.func56, Tryz.ntmps56
  go_wp2_with (go_at_call 43; refine H.out.mono ?_; rintro r w' ⟨rfl, hb⟩)
  go_ret
  exact ⟨rfl, hb⟩
theorem castStr_any (e : Ent) (h : e.Fine) (hn : e.Nice) (w : World) (hg : Good2 w) : Calls Tryz.prog 22 #[e.any] w fun r w' => r = .returned (strF e.box) ∧ Below w.heap.size w w' := by
  have HV := Lib.hid (fun w => value_any e h w)
  have HT := Lib.hid (does_str e h hn)
  have HG := Lib.hid hg
  generalize e.box = b at HV HT ⊢
  generalize strF b = t at HT ⊢
  clear h hn hg
  go_enter Tryz.func22, Tryz.ntmps22
  go_wp2_with (first | (go_at_call 40; refine (HV.out _).mono ?_; rintro r w1 ⟨rfl, hb1⟩; have hg1 := (HG.out.on (below_alloc w _)).on hb1) | (go_at_call 56; refine (HT.out _ hg1).mono ?_; rintro r w2 ⟨rfl, hb2⟩))
  go_ret
  exact ⟨rfl, belowOn (below_alloc w _) (belowOn hb1 hb2)⟩
/-- What a map holds of the entries. -/
structure GotF (es : Nat → Ent) (n : Nat) (F : Ent → Value) (m : Pairs) : Prop where
  len : m.length = keysN es n
  look : ∀ k, lk2 k m = (last es k n).map F
theorem gotF_box (F : Ent → Value) (es : Nat → Ent) (n : Nat) : GotF es n F (boxesF F es n) := ⟨boxesF_length F es n, fun k => boxesF_lk F es k n⟩
/-- A map behind a call. -/
def MapOf (es : Nat → Ent) (n : Nat) (F : Ent → Value) (w : World) (r : Ending) (w' : World) : Prop :=
  ∃ O m, r = .returned (.tuple #[.map (some O), .bool true]) ∧ w.heap.size ≤ O ∧ w'.heap[O]? = some (mobj m) ∧ GotF es n F m ∧ Below w.heap.size w w'
theorem value_map_s (p : Option Addr) (n cap : Nat) (es : Nat → Ent) (w : World) (hL : Lst w p n cap es) (hF : ∀ j, j < n → (es j).Fine) :
    Calls Tryz.prog 40 #[mapAny 22 p n cap] w fun r w' => ∃ H, r = .returned (.iface 49 (.map (some H))) ∧ w.heap.size ≤ H ∧ w'.heap[H]? = some (mobj (boxesF sF es n)) ∧ Below w.heap.size w w' := by
  have HK := Lib.hid (fun w (h : Lst w p n cap es) => keyed_s p n cap es w h hF)
  have HL := Lib.hid hL
  clear hL hF
  go_enter Tryz.func40, Tryz.ntmps40
  go_wp2_with (go_at_call 93; refine (HK.out _ (HL.out.on (below_alloc w _))).mono ?_; rintro r w2 ⟨H, rfl, hH, hm, hb2⟩)
  go_ret
  exact ⟨H, rfl, by simp at hH; omega, hm, belowOn (below_alloc w _) hb2⟩
theorem value_map_i (p : Option Addr) (n cap : Nat) (es : Nat → Ent) (w : World) (hL : Lst w p n cap es) (hF : ∀ j, j < n → (es j).Fine) :
    Calls Tryz.prog 40 #[mapAny 23 p n cap] w fun r w' => ∃ H, r = .returned (.iface 88 (.map (some H))) ∧ w.heap.size ≤ H ∧ w'.heap[H]? = some (mobj (boxesF iF es n)) ∧ Below w.heap.size w w' := by
  have HK := Lib.hid (fun w (h : Lst w p n cap es) => keyed_i p n cap es w h hF)
  have HL := Lib.hid hL
  clear hL hF
  go_enter Tryz.func40, Tryz.ntmps40
  go_wp2_with (go_at_call 95; refine (HK.out _ (HL.out.on (below_alloc w _))).mono ?_; rintro r w2 ⟨H, rfl, hH, hm, hb2⟩)
  go_ret
  exact ⟨H, rfl, by simp at hH; omega, hm, belowOn (below_alloc w _) hb2⟩
theorem value_map_b (p : Option Addr) (n cap : Nat) (es : Nat → Ent) (w : World) (hL : Lst w p n cap es) (hF : ∀ j, j < n → (es j).Fine) :
    Calls Tryz.prog 40 #[mapAny 24 p n cap] w fun r w' => ∃ H, r = .returned (.iface 33 (.map (some H))) ∧ w.heap.size ≤ H ∧ w'.heap[H]? = some (mobj (boxesF bF es n)) ∧ Below w.heap.size w w' := by
  have HK := Lib.hid (fun w (h : Lst w p n cap es) => keyed_b p n cap es w h hF)
  have HL := Lib.hid hL
  clear hL hF
  go_enter Tryz.func40, Tryz.ntmps40
  go_wp2_with (go_at_call 97; refine (HK.out _ (HL.out.on (below_alloc w _))).mono ?_; rintro r w2 ⟨H, rfl, hH, hm, hb2⟩)
  go_ret
  exact ⟨H, rfl, by simp at hH; omega, hm, belowOn (below_alloc w _) hb2⟩
theorem map_same_s (H : Nat) (w : World) : Calls Tryz.prog 49 #[.iface 49 (.map (some H))] w fun r w' => r = .returned (.tuple #[.map (some H), .nilIface]) ∧ Below w.heap.size w w' := by
  have hmm := @run_makeMap Tryz.prog
  have h1 : ∀ w, Calls Tryz.prog 151 #[.iface 49 (.map (some H)), .func (.func 56) #[] #[], .func (.func 56) #[] #[]] w fun r w' => r = .returned (.tuple #[.map (some H), .nilIface]) ∧ Below w.heap.size w w' := fun w => by
    go_enter Tryz.func151, Tryz.ntmps151
    go_wp2
    go_ret2
    exact ⟨rfl, below_alloc w _⟩
  have H1 := Lib.hid h1
  have h2 : ∀ w, Calls Tryz.prog 109 #[.iface 49 (.map (some H)), .func (.func 56) #[] #[]] w fun r w' => r = .returned (.tuple #[.map (some H), .nilIface]) ∧ Below w.heap.size w w' := fun w => by
    clear h1
    go_enter Tryz.func109, Tryz.ntmps109
    go_wp2_with (go_at_call 151; refine (H1.out _).mono ?_; rintro r w1 ⟨rfl, hb⟩)
    go_ret2
    exact ⟨rfl, hb⟩
  have H2 := Lib.hid h2
  clear h1 h2
  go_enter Tryz.func49, Tryz.ntmps49
  go_wp2_with (go_at_call 109; refine (H2.out _).mono ?_; rintro r w1 ⟨rfl, hb⟩)
  go_ret2
  exact ⟨rfl, hb⟩
theorem map_same_i (H : Nat) (w : World) : Calls Tryz.prog 50 #[.iface 88 (.map (some H))] w fun r w' => r = .returned (.tuple #[.map (some H), .nilIface]) ∧ Below w.heap.size w w' := by
  have hmm := @run_makeMap Tryz.prog
  have h1 : ∀ w, Calls Tryz.prog 110 #[.iface 88 (.map (some H)), .func (.func 111) #[] #[], .func (.func 58) #[] #[]] w fun r w' => r = .returned (.tuple #[.map (some H), .nilIface]) ∧ Below w.heap.size w w' := fun w => by
    go_enter Tryz.func110, Tryz.ntmps110
    go_wp2
    go_ret2
    exact ⟨rfl, below_alloc w _⟩
  have H1 := Lib.hid h1
  clear h1
  go_enter Tryz.func50, Tryz.ntmps50
  go_wp2_with (go_at_call 110; refine (H1.out _).mono ?_; rintro r w1 ⟨rfl, hb⟩)
  go_ret2
  exact ⟨rfl, hb⟩
theorem map_same_b (H : Nat) (w : World) : Calls Tryz.prog 41 #[.iface 33 (.map (some H))] w fun r w' => r = .returned (.tuple #[.map (some H), .nilIface]) ∧ Below w.heap.size w w' := by
  have hmm := @run_makeMap Tryz.prog
  have h1 : ∀ w, Calls Tryz.prog 137 #[.iface 33 (.map (some H)), .func (.func 56) #[] #[], .func (.func 42) #[] #[]] w fun r w' => r = .returned (.tuple #[.map (some H), .nilIface]) ∧ Below w.heap.size w w' := fun w => by
    go_enter Tryz.func137, Tryz.ntmps137
    go_wp2
    go_ret2
    exact ⟨rfl, below_alloc w _⟩
  have H1 := Lib.hid h1
  have h2 : ∀ w, Calls Tryz.prog 99 #[.iface 33 (.map (some H)), .func (.func 42) #[] #[]] w fun r w' => r = .returned (.tuple #[.map (some H), .nilIface]) ∧ Below w.heap.size w w' := fun w => by
    clear h1
    go_enter Tryz.func99, Tryz.ntmps99
    go_wp2_with (go_at_call 137; refine (H1.out _).mono ?_; rintro r w1 ⟨rfl, hb⟩)
    go_ret2
    exact ⟨rfl, hb⟩
  have H2 := Lib.hid h2
  clear h1 h2
  go_enter Tryz.func41, Tryz.ntmps41
  go_wp2_with (go_at_call 99; refine (H2.out _).mono ?_; rintro r w1 ⟨rfl, hb⟩)
  go_ret2
  exact ⟨rfl, hb⟩
theorem map_same_a (H : Nat) (w : World) : Calls Tryz.prog 53 #[.iface 93 (.map (some H))] w fun r w' => r = .returned (.tuple #[.map (some H), .nilIface]) ∧ Below w.heap.size w w' := by
  have hmm := @run_makeMap Tryz.prog
  have h1 : ∀ w, Calls Tryz.prog 153 #[.iface 93 (.map (some H)), .func (.func 56) #[] #[], .func (.func 112) #[] #[]] w fun r w' => r = .returned (.tuple #[.map (some H), .nilIface]) ∧ Below w.heap.size w w' := fun w => by
    go_enter Tryz.func153, Tryz.ntmps153
    go_wp2
    go_ret2
    exact ⟨rfl, below_alloc w _⟩
  have H1 := Lib.hid h1
  have h2 : ∀ w, Calls Tryz.prog 113 #[.iface 93 (.map (some H)), .func (.func 112) #[] #[]] w fun r w' => r = .returned (.tuple #[.map (some H), .nilIface]) ∧ Below w.heap.size w w' := fun w => by
    clear h1
    go_enter Tryz.func113, Tryz.ntmps113
    go_wp2_with (go_at_call 153; refine (H1.out _).mono ?_; rintro r w1 ⟨rfl, hb⟩)
    go_ret2
    exact ⟨rfl, hb⟩
  have H2 := Lib.hid h2
  clear h1 h2
  go_enter Tryz.func53, Tryz.ntmps53
  go_wp2_with (go_at_call 113; refine (H2.out _).mono ?_; rintro r w1 ⟨rfl, hb⟩)
  go_ret2
  exact ⟨rfl, hb⟩
/-- impl.ToStringMapString at KMapText. -/
theorem door_s (p : Option Addr) (n cap : Nat) (es : Nat → Ent) (w : World) (hL : Lst w p n cap es) (hF : ∀ j, j < n → (es j).Fine) : Calls Tryz.prog 19 #[mapAny 22 p n cap] w (MapOf es n sF w) := by
  have HV := Lib.hid (fun w (h : Lst w p n cap es) => value_map_s p n cap es w h hF)
  have HT := Lib.hid (fun H w => map_same_s H w)
  have HL := Lib.hid hL
  clear hL hF
  go_enter Tryz.func19, Tryz.ntmps19
  go_wp2_with (first | (go_at_call 40; refine (HV.out _ (HL.out.on (below_alloc w _))).mono ?_; rintro r w2 ⟨H, rfl, hH, hm, hb2⟩) | (go_at_call 49; refine (HT.out H _).mono ?_; rintro r w3 ⟨rfl, hb3⟩))
  go_quiet (fail)
  go_wp2
  go_ret2
  exact ⟨H, _, rfl, by simp at hH; omega, held_on (held_on hm hb3) (below_drewN _ _), gotF_box sF es n, belowOn (belowOn (below_alloc w _) (belowOn hb2 hb3)) (below_drewN _ _)⟩
/-- impl.ToStringMapBool at KMapBool. -/
theorem door_b (p : Option Addr) (n cap : Nat) (es : Nat → Ent) (w : World) (hL : Lst w p n cap es) (hF : ∀ j, j < n → (es j).Fine) : Calls Tryz.prog 10 #[mapAny 24 p n cap] w (MapOf es n bF w) := by
  have HV := Lib.hid (fun w (h : Lst w p n cap es) => value_map_b p n cap es w h hF)
  have HT := Lib.hid (fun H w => map_same_b H w)
  have HL := Lib.hid hL
  clear hL hF
  go_enter Tryz.func10, Tryz.ntmps10
  go_wp2_with (first | (go_at_call 40; refine (HV.out _ (HL.out.on (below_alloc w _))).mono ?_; rintro r w2 ⟨H, rfl, hH, hm, hb2⟩) | (go_at_call 41; refine (HT.out H _).mono ?_; rintro r w3 ⟨rfl, hb3⟩))
  go_quiet (fail)
  go_wp2
  go_ret2
  exact ⟨H, _, rfl, by simp at hH; omega, held_on (held_on hm hb3) (below_drewN _ _), gotF_box bF es n, belowOn (belowOn (below_alloc w _) (belowOn hb2 hb3)) (below_drewN _ _)⟩
theorem does_wide (n : Int) : Does2 52 (.int .i64 n) (.int .i64 n) := fun w hg => by
  clear hg
  go_enter Tryz.func52, Tryz.ntmps52
  go_wp2
  go_ret
  exact ⟨rfl, Below.refl _ _⟩
/-- impl.ToStringMapInt at KMapInt. -/
theorem door_i (p : Option Addr) (n cap : Nat) (es : Nat → Ent) (w : World) (hg : Good2 w) (hL : Lst w p n cap es) (hF : ∀ j, j < n → (es j).Fine) : Calls Tryz.prog 20 #[mapAny 23 p n cap] w (MapOf es n iF w) := by
  have HV := Lib.hid (fun w (h : Lst w p n cap es) => value_map_i p n cap es w h hF)
  have HT := Lib.hid (fun H w => map_same_i H w)
  have HK := Lib.hid (fun H w hg hH => keys_i H (boxesF iF es n) id w hg (boxesF_dis iF es n) hH (boxesF_of iF es (fun v => Does2 52 v v) n (fun j hj => does_wide _)) (by rw [boxesF_length]; exact Nat.le_trans (keysN_le es n) hL.n60))
  have HL := Lib.hid hL
  have HG := Lib.hid hg
  clear hL hF hg
  go_enter Tryz.func20, Tryz.ntmps20
  go_wp2_with (first | (go_at_call 40; refine (HV.out _ (HL.out.on (below_alloc w _))).mono ?_; rintro r w2 ⟨H, rfl, hH, hm, hb2⟩) | (go_at_call 50; refine (HT.out H _).mono ?_; rintro r w3 ⟨rfl, hb3⟩))
  have hB := Lib.hid (belowOn (below_alloc w _) (belowOn hb2 hb3))
  have hg3 := Lib.hid (HG.out.on hB.out)
  have hm3 := Lib.hid (held_on hm hb3)
  clear hm hb3 hb2
  have hS0 : Below w3.heap.size w3 w3.drew := (Below.refl _ _).drew
  go_region_held3 (fun w' => Below w3.heap.size w3 w')
    (first | (with_reducible exact hS0) | (with_reducible exact hk3))
    (first
      | (go_at_call 51; refine (HK.out H _ (hg3.out.on (by assumption)) (held_on hm3.out (by assumption))).mono ?_; rintro r w4 ⟨O, m, rfl, hO, hmO, hgot, hb4⟩; have hk3 := belowOn (by assumption) hb4))
  all_goals
    go_wp2
    go_ret2
    refine ⟨O, m, rfl, ?_, hmO, ⟨hgot.1.trans (boxesF_length iF es n), fun k => by rw [hgot.2, boxesF_lk]; cases last es k n <;> rfl⟩, belowOn hB.out hk3⟩
    have h1 := hB.out.size
    have h2 := hS0.size
    omega
/-- impl.ToStringMap at KMap. -/
theorem door_a (p : Option Addr) (n cap : Nat) (es : Nat → Ent) (w : World) (hg : Good2 w) (hL : Lst w p n cap es) (hF : ∀ j, j < n → (es j).Fine) (hN : ∀ j, j < n → (es j).Nice) : Calls Tryz.prog 21 #[mapAny 21 p n cap] w (MapOf es n (fun e => strF e.box) w) := by
  have HV := Lib.hid (fun w (h : Lst w p n cap es) => value_map p n cap es w h hF)
  have HT := Lib.hid (fun H w => map_same_a H w)
  have HK := Lib.hid (fun H w hg hH => keys_a H (boxes es n) strF w hg (boxes_dis es n) hH (boxes_of es (fun v => Does2 55 v (strF v)) n (fun j hj => does_text (es j) (hF j hj) (hN j hj))) (by rw [boxes_length]; exact Nat.le_trans (keysN_le es n) hL.n60))
  have HL := Lib.hid hL
  have HG := Lib.hid hg
  clear hL hF hg hN
  go_enter Tryz.func21, Tryz.ntmps21
  go_wp2_with (first | (go_at_call 40; refine (HV.out _ (HL.out.on (below_alloc w _))).mono ?_; rintro r w2 ⟨H, rfl, hH, hm, hb2⟩) | (go_at_call 53; refine (HT.out H _).mono ?_; rintro r w3 ⟨rfl, hb3⟩))
  have hB := Lib.hid (belowOn (below_alloc w _) (belowOn hb2 hb3))
  have hg3 := Lib.hid (HG.out.on hB.out)
  have hm3 := Lib.hid (held_on hm hb3)
  clear hm hb3 hb2
  have hS0 : Below w3.heap.size w3 w3.drew := (Below.refl _ _).drew
  go_region_held3 (fun w' => Below w3.heap.size w3 w')
    (first | (with_reducible exact hS0) | (with_reducible exact hk3))
    (first
      | (go_at_call 54; refine (HK.out H _ (hg3.out.on (by assumption)) (held_on hm3.out (by assumption))).mono ?_; rintro r w4 ⟨O, m, rfl, hO, hmO, hgot, hb4⟩; have hk3 := belowOn (by assumption) hb4))
  all_goals
    go_wp2
    go_ret2
    refine ⟨O, m, rfl, ?_, hmO, ⟨hgot.1.trans (boxes_length es n), fun k => by rw [hgot.2, boxes_lk]; cases last es k n <;> rfl⟩, belowOn hB.out hk3⟩
    have h1 := hB.out.size
    have h2 := hS0.size
    omega
end Go.Proofs.YtnggkkdcddpjlaaGreatDoor
