/- Plain values as cast sees them: what impl.value boxes, and what they are as bools. -/
import Derived.Test.YtnggkkdcddpjlaaGreatDoorTB
namespace Go.Proofs.YtnggkkdcddpjlaaGreatDoor
open Go.RowKit
set_option maxRecDepth 100000
set_option linter.unusedVariables false


theorem boolE_0  (w : World) :
    Calls Tryz.prog 39 #[.nilIface] w fun e w' => e = .returned (.tuple #[.bool false, .nilIface]) ∧ Below w.heap.size w w' := by
  go_enter Tryz.func39, Tryz.ntmps39
  go_wp2_with (go_at_call 79; go_in)
  go_ret2
  exact ⟨rfl, Below.refl _ _⟩


theorem boolE_1 (i : Int) (w : World) :
    Calls Tryz.prog 39 #[.iface 4 (.bool (i != 0))] w fun e w' => e = .returned (.tuple #[.bool (i != 0), .nilIface]) ∧ Below w.heap.size w w' := by
  go_enter Tryz.func39, Tryz.ntmps39
  go_wp2_with (go_at_call 79; go_in)
  go_ret2
  exact ⟨rfl, Below.refl _ _⟩


theorem boolE_2 (i : Int) (w : World) :
    Calls Tryz.prog 39 #[.iface 3 (.int .i64 i)] w fun e w' => e = .returned (.tuple #[.bool (i != 0), .nilIface]) ∧ Below w.heap.size w w' := by
  go_enter Tryz.func39, Tryz.ntmps39
  go_wp2_with (go_at_call 79; go_in)
  go_ret2
  exact ⟨rfl, Below.refl _ _⟩


theorem boolE_3 (i : Int) (w : World) :
    Calls Tryz.prog 39 #[.iface 81 (.int .i8 (IntKind.i8.wrap i))] w fun e w' => e = .returned (.tuple #[.bool (IntKind.i8.wrap i != 0), .nilIface]) ∧ Below w.heap.size w w' := by
  go_enter Tryz.func39, Tryz.ntmps39
  go_wp2_with (go_at_call 79; go_in)
  go_ret2
  exact ⟨rfl, Below.refl _ _⟩


theorem boolE_4 (i : Int) (w : World) :
    Calls Tryz.prog 39 #[.iface 82 (.int .i16 (IntKind.i16.wrap i))] w fun e w' => e = .returned (.tuple #[.bool (IntKind.i16.wrap i != 0), .nilIface]) ∧ Below w.heap.size w w' := by
  go_enter Tryz.func39, Tryz.ntmps39
  go_wp2_with (go_at_call 79; go_in)
  go_ret2
  exact ⟨rfl, Below.refl _ _⟩


theorem boolE_5 (i : Int) (w : World) :
    Calls Tryz.prog 39 #[.iface 21 (.int .i32 (wrap32 i))] w fun e w' => e = .returned (.tuple #[.bool (wrap32 i != 0), .nilIface]) ∧ Below w.heap.size w w' := by
  go_enter Tryz.func39, Tryz.ntmps39
  go_wp2_with (go_at_call 79; go_in)
  go_ret2
  exact ⟨rfl, Below.refl _ _⟩


theorem boolE_6 (i : Int) (w : World) :
    Calls Tryz.prog 39 #[.iface 2 (.int .i64 i)] w fun e w' => e = .returned (.tuple #[.bool (i != 0), .nilIface]) ∧ Below w.heap.size w w' := by
  go_enter Tryz.func39, Tryz.ntmps39
  go_wp2_with (go_at_call 79; go_in)
  go_ret2
  exact ⟨rfl, Below.refl _ _⟩


theorem boolE_7 (u : Int) (w : World) :
    Calls Tryz.prog 39 #[.iface 80 (.int .u64 u)] w fun e w' => e = .returned (.tuple #[.bool (u != 0), .nilIface]) ∧ Below w.heap.size w w' := by
  go_enter Tryz.func39, Tryz.ntmps39
  go_wp2_with (go_at_call 79; go_in)
  go_ret2
  exact ⟨rfl, Below.refl _ _⟩


theorem boolE_8 (u : Int) (w : World) :
    Calls Tryz.prog 39 #[.iface 5 (.int .u8 (IntKind.u8.wrap u))] w fun e w' => e = .returned (.tuple #[.bool (IntKind.u8.wrap u != 0), .nilIface]) ∧ Below w.heap.size w w' := by
  go_enter Tryz.func39, Tryz.ntmps39
  go_wp2_with (go_at_call 79; go_in)
  go_ret2
  exact ⟨rfl, Below.refl _ _⟩


theorem boolE_9 (u : Int) (w : World) :
    Calls Tryz.prog 39 #[.iface 126 (.int .u16 (IntKind.u16.wrap u))] w fun e w' => e = .returned (.tuple #[.bool (IntKind.u16.wrap u != 0), .nilIface]) ∧ Below w.heap.size w w' := by
  go_enter Tryz.func39, Tryz.ntmps39
  go_wp2_with (go_at_call 79; go_in)
  go_ret2
  exact ⟨rfl, Below.refl _ _⟩


theorem boolE_10 (u : Int) (w : World) :
    Calls Tryz.prog 39 #[.iface 127 (.int .u32 (IntKind.u32.wrap u))] w fun e w' => e = .returned (.tuple #[.bool (IntKind.u32.wrap u != 0), .nilIface]) ∧ Below w.heap.size w w' := by
  go_enter Tryz.func39, Tryz.ntmps39
  go_wp2_with (go_at_call 79; go_in)
  go_ret2
  exact ⟨rfl, Below.refl _ _⟩


theorem boolE_11 (u : Int) (w : World) :
    Calls Tryz.prog 39 #[.iface 24 (.int .u64 u)] w fun e w' => e = .returned (.tuple #[.bool (u != 0), .nilIface]) ∧ Below w.heap.size w w' := by
  go_enter Tryz.func39, Tryz.ntmps39
  go_wp2_with (go_at_call 79; go_in)
  go_ret2
  exact ⟨rfl, Below.refl _ _⟩


theorem boolE_12 (g : Nat) (w : World) :
    Calls Tryz.prog 39 #[.iface 66 (.float .f32 g)] w fun e w' => e = .returned (.tuple #[.bool (FloatKind.f32.format.order g 0 != some .eq), .nilIface]) ∧ Below w.heap.size w w' := by
  go_enter Tryz.func39, Tryz.ntmps39
  go_wp2_with (go_at_call 79; go_in)
  go_ret2
  exact ⟨rfl, Below.refl _ _⟩


theorem boolE_13 (f : Nat) (w : World) :
    Calls Tryz.prog 39 #[.iface 25 (.float .f64 f)] w fun e w' => e = .returned (.tuple #[.bool (FloatKind.f64.format.order f 0 != some .eq), .nilIface]) ∧ Below w.heap.size w w' := by
  go_enter Tryz.func39, Tryz.ntmps39
  go_wp2_with (go_at_call 79; go_in)
  go_ret2
  exact ⟨rfl, Below.refl _ _⟩


theorem boolE_14 (s : ByteArray) (b : Bool) (h : Lib.parseBool s.data.toList = some b) (w : World) :
    Calls Tryz.prog 39 #[.iface 9 (.string s)] w fun e w' => e = .returned (.tuple #[.bool b, .nilIface]) ∧ Below w.heap.size w w' := by
  have HP := Lib.hid (fun w => Tryz.strconv_ParseBool s b h w)
  clear h
  go_enter Tryz.func39, Tryz.ntmps39
  go_wp2_with (first | (go_at_call 80; refine (HP.out _).mono ?_; rintro e w1 ⟨rfl, rfl⟩) | (go_at_call 79; go_in))
  go_ret2
  exact ⟨rfl, Below.refl _ _⟩
def SomeErr (b : Bool) (w : World) (e : Ending) (w' : World) : Prop := ∃ p, e = .returned (.tuple #[.bool b, .iface 258 (.pointer (some p))]) ∧ Below w.heap.size w w'
theorem boolE_14_no (s : ByteArray) (hs : s.size ≤ 281474976710656) (h : Lib.parseBool s.data.toList = none) (w : World) (hg : Good w) :
    Calls Tryz.prog 39 #[.iface 9 (.string s)] w (SomeErr false w) := by
  have HP := Lib.hid (fun w tp p hv => Tryz.strconv_ParseBool_err_var s hs h tp p w hv)
  clear h hs
  go_enter Tryz.func39, Tryz.ntmps39
  go_wp2_with (first | (go_at_call 80; obtain ⟨tp, p, hv⟩ := hg.syn; refine (HP.out _ tp p hv).mono ?_; rintro e w1 ⟨N, rfl, _, _, hb⟩) | (go_at_call 79; go_in))
  go_ret2
  exact ⟨_, rfl, hb⟩

end Go.Proofs.YtnggkkdcddpjlaaGreatDoor