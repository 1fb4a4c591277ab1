/- A pair of plain values as castPairs leaves it, for whatever kind: impl.value, cast.ToBoolE, cast.ToBool, impl.ToBool, impl.CastBool. -/
import Derived.Test.YtnggkkdcddpjlaaGreatDoorC5
namespace Go.Proofs.YtnggkkdcddpjlaaGreatDoor
open Go.RowKit
set_option maxRecDepth 100000
set_option linter.unusedVariables false
structure Ent where
  key : ByteArray
  k : Int
  i : Int
  u : Int
  f : Nat
  s : ByteArray
def Ent.g (e : Ent) : Nat := (floatToFloatBits .f64 e.f .f32).getD 0
abbrev Ent.any (e : Ent) : Value := .agg #[.int .i64 e.k, .int .i64 e.i, .int .u64 e.u, .float .f64 e.f, .string e.s, .slice none 0 0, .slice none 0 0]
/-- What impl.value makes of it. -/
def Ent.box (e : Ent) : Value :=
  if e.k = 0 then .nilIface else
  if e.k = 1 then .iface 4 (.bool (e.i != 0)) else
  if e.k = 2 then .iface 3 (.int .i64 e.i) else
  if e.k = 3 then .iface 81 (.int .i8 (IntKind.i8.wrap e.i)) else
  if e.k = 4 then .iface 82 (.int .i16 (IntKind.i16.wrap e.i)) else
  if e.k = 5 then .iface 21 (.int .i32 (wrap32 e.i)) else
  if e.k = 6 then .iface 2 (.int .i64 e.i) else
  if e.k = 7 then .iface 80 (.int .u64 e.u) else
  if e.k = 8 then .iface 5 (.int .u8 (IntKind.u8.wrap e.u)) else
  if e.k = 9 then .iface 126 (.int .u16 (IntKind.u16.wrap e.u)) else
  if e.k = 10 then .iface 127 (.int .u32 (IntKind.u32.wrap e.u)) else
  if e.k = 11 then .iface 24 (.int .u64 e.u) else
  if e.k = 12 then .iface 66 (.float .f32 e.g) else
  if e.k = 13 then .iface 25 (.float .f64 e.f) else .iface 9 (.string e.s)
/-- What cast.ToBoolE makes of that; none: an error. -/
def Ent.bool? (e : Ent) : Option Bool :=
  if e.k = 0 then some false else
  if e.k = 1 then some (e.i != 0) else
  if e.k = 2 then some (e.i != 0) else
  if e.k = 3 then some (IntKind.i8.wrap e.i != 0) else
  if e.k = 4 then some (IntKind.i16.wrap e.i != 0) else
  if e.k = 5 then some (wrap32 e.i != 0) else
  if e.k = 6 then some (e.i != 0) else
  if e.k = 7 then some (e.u != 0) else
  if e.k = 8 then some (IntKind.u8.wrap e.u != 0) else
  if e.k = 9 then some (IntKind.u16.wrap e.u != 0) else
  if e.k = 10 then some (IntKind.u32.wrap e.u != 0) else
  if e.k = 11 then some (e.u != 0) else
  if e.k = 12 then some (FloatKind.f32.format.order e.g 0 != some .eq) else
  if e.k = 13 then some (FloatKind.f64.format.order e.f 0 != some .eq) else Lib.parseBool e.s.data.toList
structure Ent.Fine (e : Ent) : Prop where
  k0 : 0 ≤ e.k
  k1 : e.k ≤ 14
  g : floatToFloatBits .f64 e.f .f32 = some e.g
  s : e.s.size ≤ 400
theorem Ent.Fine.cases {e : Ent} (h : e.Fine) : e.k = 0 ∨ e.k = 1 ∨ e.k = 2 ∨ e.k = 3 ∨ e.k = 4 ∨ e.k = 5 ∨ e.k = 6 ∨ e.k = 7 ∨ e.k = 8 ∨ e.k = 9 ∨ e.k = 10 ∨ e.k = 11 ∨ e.k = 12 ∨ e.k = 13 ∨ e.k = 14 := by
  have := h.k0; have := h.k1; omega

theorem value_any (e : Ent) (h : e.Fine) (w : World) :
    Calls Tryz.prog 40 #[e.any] w fun r w' => r = .returned e.box ∧ Below w.heap.size w w' := by
  have hc := h.cases
  have hg := h.g
  obtain ⟨key, k, i, u, f, s⟩ := e
  dsimp only at hc hg
  unfold Ent.any Ent.box
  dsimp only
  rcases hc with rfl | rfl | rfl | rfl | rfl | rfl | rfl | rfl | rfl | rfl | rfl | rfl | rfl | rfl | rfl
  · exact value_0 i u f s _ _ w
  · exact value_1 i u f s _ _ w
  · exact value_2 i u f s _ _ w
  · exact value_3 i u f s _ _ w
  · exact value_4 i u f s _ _ w
  · exact value_5 i u f s _ _ w
  · exact value_6 i u f s _ _ w
  · exact value_7 i u f s _ _ w
  · exact value_8 i u f s _ _ w
  · exact value_9 i u f s _ _ w
  · exact value_10 i u f s _ _ w
  · exact value_11 i u f s _ _ w
  · exact value_12 i u f _ s _ _ w hg
  · exact value_13 i u f s _ _ w
  · exact value_14 i u f s _ _ w

theorem boolE_ok (e : Ent) (h : e.Fine) (b : Bool) (hb : e.bool? = some b) (w : World) :
    Calls Tryz.prog 39 #[e.box] w fun r w' => r = .returned (.tuple #[.bool b, .nilIface]) ∧ Below w.heap.size w w' := by
  have hc := h.cases
  obtain ⟨key, k, i, u, f, s⟩ := e
  dsimp only at hc
  unfold Ent.bool? at hb
  unfold Ent.box
  dsimp only at hb ⊢
  rcases hc with rfl | rfl | rfl | rfl | rfl | rfl | rfl | rfl | rfl | rfl | rfl | rfl | rfl | rfl | rfl
  · obtain rfl := Option.some.inj hb
    exact boolE_0 w
  · obtain rfl := Option.some.inj hb
    exact boolE_1 i w
  · obtain rfl := Option.some.inj hb
    exact boolE_2 i w
  · obtain rfl := Option.some.inj hb
    exact boolE_3 i w
  · obtain rfl := Option.some.inj hb
    exact boolE_4 i w
  · obtain rfl := Option.some.inj hb
    exact boolE_5 i w
  · obtain rfl := Option.some.inj hb
    exact boolE_6 i w
  · obtain rfl := Option.some.inj hb
    exact boolE_7 u w
  · obtain rfl := Option.some.inj hb
    exact boolE_8 u w
  · obtain rfl := Option.some.inj hb
    exact boolE_9 u w
  · obtain rfl := Option.some.inj hb
    exact boolE_10 u w
  · obtain rfl := Option.some.inj hb
    exact boolE_11 u w
  · obtain rfl := Option.some.inj hb
    exact boolE_12 _ w
  · obtain rfl := Option.some.inj hb
    exact boolE_13 f w
  · exact boolE_14 s b hb w

theorem boolE_no (e : Ent) (h : e.Fine) (hb : e.bool? = none) (w : World) (hg : Good w) :
    Calls Tryz.prog 39 #[e.box] w (SomeErr false w) := by
  have hc := h.cases
  have hs := h.s
  obtain ⟨key, k, i, u, f, s⟩ := e
  dsimp only at hc hs
  unfold Ent.bool? at hb
  unfold Ent.box
  dsimp only at hb ⊢
  rcases hc with rfl | rfl | rfl | rfl | rfl | rfl | rfl | rfl | rfl | rfl | rfl | rfl | rfl | rfl | rfl
  · cases hb
  · cases hb
  · cases hb
  · cases hb
  · cases hb
  · cases hb
  · cases hb
  · cases hb
  · cases hb
  · cases hb
  · cases hb
  · cases hb
  · cases hb
  · cases hb
  · exact boolE_14_no s (by omega) hb w hg

def Ent.bv (e : Ent) : Bool := e.bool?.getD false
/-- cast.ToBool of what impl.value boxes. -/
theorem castToBool (e : Ent) (h : e.Fine) (w : World) (hg : Good w) :
    Calls Tryz.prog 42 #[e.box] w fun r w' => r = .returned (.bool e.bv) ∧ Below w.heap.size w w' := by
  unfold Ent.bv
  cases hb : e.bool? with
  | some b =>
    have HB := Lib.hid (boolE_ok e h b hb)
    clear hb
    obtain ⟨v, hv⟩ : ∃ v, v = e.box := ⟨_, rfl⟩
    rw [← hv] at HB ⊢
    clear hv
    go_enter Tryz.func42, Tryz.ntmps42
    go_wp2_with (go_at_call 39; refine (HB.out _).mono ?_; rintro r w1 ⟨rfl, hb1⟩)
    go_ret
    exact ⟨rfl, hb1⟩
  | none =>
    have HB := Lib.hid (fun w hg => boolE_no e h hb w hg)
    clear hb
    obtain ⟨v, hv⟩ : ∃ v, v = e.box := ⟨_, rfl⟩
    rw [← hv] at HB ⊢
    clear hv
    go_enter Tryz.func42, Tryz.ntmps42
    go_wp2_with (go_at_call 39; refine (HB.out _ hg).mono ?_; rintro r w1 ⟨p, rfl, hb1⟩)
    go_ret
    exact ⟨rfl, hb1⟩

/-- impl.ToBool. -/
theorem toBool_any (e : Ent) (h : e.Fine) (w : World) (hg : Good w) :
    Calls Tryz.prog 9 #[e.any] w fun r w' => r = .returned (.tuple #[.bool e.bv, .bool e.bool?.isSome]) ∧ Below w.heap.size w w' := by
  have HV := Lib.hid (value_any e h)
  unfold Ent.bv
  cases hb : e.bool? with
  | some b =>
    have HB := Lib.hid (boolE_ok e h b hb)
    clear hb
    obtain ⟨v, hv⟩ : ∃ v, v = e.box := ⟨_, rfl⟩
    rw [← hv] at HB HV
    clear hv
    go_enter Tryz.func9, Tryz.ntmps9
    go_wp2_with (first | (go_at_call 40; refine (HV.out _).mono ?_; rintro r w1 ⟨rfl, hb1⟩) | (go_at_call 39; refine (HB.out _).mono ?_; rintro r w2 ⟨rfl, hb2⟩))
    go_quiet (fail)
    go_wp2
    go_ret2
    exact ⟨rfl, belowOn (belowOn (below_alloc w _) (belowOn hb1 hb2)) (below_drewN _ _)⟩
  | none =>
    have HB := Lib.hid (fun w hg => boolE_no e h hb w hg)
    clear hb
    obtain ⟨v, hv⟩ : ∃ v, v = e.box := ⟨_, rfl⟩
    rw [← hv] at HB HV
    clear hv
    go_enter Tryz.func9, Tryz.ntmps9
    go_wp2_with (first | (go_at_call 40; refine (HV.out _).mono ?_; rintro r w1 ⟨rfl, hb1⟩; have hg1 := (hg.on (below_alloc w _)).on hb1) | (go_at_call 39; refine (HB.out _ hg1).mono ?_; rintro r w2 ⟨p, rfl, hb2⟩))
    go_quiet (fail)
    go_wp2
    go_ret2
    exact ⟨rfl, belowOn (belowOn (below_alloc w _) (belowOn hb1 hb2)) (below_drewN _ _)⟩

/-- impl.CastBool. -/
theorem castBool_any (e : Ent) (h : e.Fine) (w : World) (hg : Good w) :
    Calls Tryz.prog 13 #[e.any] w fun r w' => r = .returned (.bool e.bv) ∧ Below w.heap.size w w' := by
  have HV := Lib.hid (value_any e h)
  have HB := Lib.hid (castToBool e h)
  obtain ⟨v, hv⟩ : ∃ v, v = e.box := ⟨_, rfl⟩
  rw [← hv] at HB HV
  clear hv
  obtain ⟨b, hb⟩ : ∃ b, b = e.bv := ⟨_, rfl⟩
  rw [← hb] at HB ⊢
  clear hb
  go_enter Tryz.func13, Tryz.ntmps13
  go_wp2_with (first | (go_at_call 40; refine (HV.out _).mono ?_; rintro r w1 ⟨rfl, hb1⟩; have hg1 := (hg.on (below_alloc w _)).on hb1) | (go_at_call 42; refine (HB.out _ hg1).mono ?_; rintro r w2 ⟨rfl, hb2⟩))
  go_ret
  exact ⟨rfl, belowOn (below_alloc w _) (belowOn hb1 hb2)⟩
end Go.Proofs.YtnggkkdcddpjlaaGreatDoor
