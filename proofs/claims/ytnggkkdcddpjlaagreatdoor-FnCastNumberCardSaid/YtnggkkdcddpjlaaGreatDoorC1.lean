/- impl.value at the plain kinds: nil, a bool, the ints and uints, float64, string: what it boxes, whatever the world. -/
import Derived.Test.YtnggkkdcddpjlaaGreatDoorProg
import Derived.WalkKit
import Derived.WalkLawsBesides
import Derived.WalkSpells
import Derived.Laws.FloatArith
namespace Go.Proofs.YtnggkkdcddpjlaaGreatDoor
open Go.RowKit

theorem value_0 (i u : Int) (f : Nat) (s : ByteArray) (l m : Value) (w : World) :
    Calls Tryz.prog 40 #[.agg #[.int .i64 0, .int .i64 i, .int .u64 u, .float .f64 f, .string s, l, m]] w fun e w' => e = .returned (.nilIface) ∧ Below w.heap.size w w' := by
  go_enter Tryz.func40, Tryz.ntmps40
  go_wp2
  go_ret
  exact ⟨rfl, (Below.refl _ _).alloc (Nat.le_refl _) _⟩

theorem value_1 (i u : Int) (f : Nat) (s : ByteArray) (l m : Value) (w : World) :
    Calls Tryz.prog 40 #[.agg #[.int .i64 1, .int .i64 i, .int .u64 u, .float .f64 f, .string s, l, m]] w fun e w' => e = .returned (.iface 4 (.bool (i != 0))) ∧ Below w.heap.size w w' := by
  go_enter Tryz.func40, Tryz.ntmps40
  go_wp2
  go_ret
  exact ⟨rfl, (Below.refl _ _).alloc (Nat.le_refl _) _⟩

theorem value_2 (i u : Int) (f : Nat) (s : ByteArray) (l m : Value) (w : World) :
    Calls Tryz.prog 40 #[.agg #[.int .i64 2, .int .i64 i, .int .u64 u, .float .f64 f, .string s, l, m]] w fun e w' => e = .returned (.iface 3 (.int .i64 i)) ∧ Below w.heap.size w w' := by
  go_enter Tryz.func40, Tryz.ntmps40
  go_wp2
  go_ret
  exact ⟨rfl, (Below.refl _ _).alloc (Nat.le_refl _) _⟩

theorem value_3 (i u : Int) (f : Nat) (s : ByteArray) (l m : Value) (w : World) :
    Calls Tryz.prog 40 #[.agg #[.int .i64 3, .int .i64 i, .int .u64 u, .float .f64 f, .string s, l, m]] w fun e w' => e = .returned (.iface 81 (.int .i8 (IntKind.i8.wrap i))) ∧ Below w.heap.size w w' := by
  go_enter Tryz.func40, Tryz.ntmps40
  go_wp2
  go_ret
  exact ⟨rfl, (Below.refl _ _).alloc (Nat.le_refl _) _⟩

theorem value_4 (i u : Int) (f : Nat) (s : ByteArray) (l m : Value) (w : World) :
    Calls Tryz.prog 40 #[.agg #[.int .i64 4, .int .i64 i, .int .u64 u, .float .f64 f, .string s, l, m]] w fun e w' => e = .returned (.iface 82 (.int .i16 (IntKind.i16.wrap i))) ∧ Below w.heap.size w w' := by
  go_enter Tryz.func40, Tryz.ntmps40
  go_wp2
  go_ret
  exact ⟨rfl, (Below.refl _ _).alloc (Nat.le_refl _) _⟩

theorem value_5 (i u : Int) (f : Nat) (s : ByteArray) (l m : Value) (w : World) :
    Calls Tryz.prog 40 #[.agg #[.int .i64 5, .int .i64 i, .int .u64 u, .float .f64 f, .string s, l, m]] w fun e w' => e = .returned (.iface 21 (.int .i32 (wrap32 i))) ∧ Below w.heap.size w w' := by
  go_enter Tryz.func40, Tryz.ntmps40
  go_wp2
  go_ret
  exact ⟨rfl, (Below.refl _ _).alloc (Nat.le_refl _) _⟩

theorem value_6 (i u : Int) (f : Nat) (s : ByteArray) (l m : Value) (w : World) :
    Calls Tryz.prog 40 #[.agg #[.int .i64 6, .int .i64 i, .int .u64 u, .float .f64 f, .string s, l, m]] w fun e w' => e = .returned (.iface 2 (.int .i64 i)) ∧ Below w.heap.size w w' := by
  go_enter Tryz.func40, Tryz.ntmps40
  go_wp2
  go_ret
  exact ⟨rfl, (Below.refl _ _).alloc (Nat.le_refl _) _⟩

theorem value_7 (i u : Int) (f : Nat) (s : ByteArray) (l m : Value) (w : World) :
    Calls Tryz.prog 40 #[.agg #[.int .i64 7, .int .i64 i, .int .u64 u, .float .f64 f, .string s, l, m]] w fun e w' => e = .returned (.iface 80 (.int .u64 u)) ∧ Below w.heap.size w w' := by
  go_enter Tryz.func40, Tryz.ntmps40
  go_wp2
  go_ret
  exact ⟨rfl, (Below.refl _ _).alloc (Nat.le_refl _) _⟩

theorem value_8 (i u : Int) (f : Nat) (s : ByteArray) (l m : Value) (w : World) :
    Calls Tryz.prog 40 #[.agg #[.int .i64 8, .int .i64 i, .int .u64 u, .float .f64 f, .string s, l, m]] w fun e w' => e = .returned (.iface 5 (.int .u8 (IntKind.u8.wrap u))) ∧ Below w.heap.size w w' := by
  go_enter Tryz.func40, Tryz.ntmps40
  go_wp2
  go_ret
  exact ⟨rfl, (Below.refl _ _).alloc (Nat.le_refl _) _⟩

theorem value_9 (i u : Int) (f : Nat) (s : ByteArray) (l m : Value) (w : World) :
    Calls Tryz.prog 40 #[.agg #[.int .i64 9, .int .i64 i, .int .u64 u, .float .f64 f, .string s, l, m]] w fun e w' => e = .returned (.iface 126 (.int .u16 (IntKind.u16.wrap u))) ∧ Below w.heap.size w w' := by
  go_enter Tryz.func40, Tryz.ntmps40
  go_wp2
  go_ret
  exact ⟨rfl, (Below.refl _ _).alloc (Nat.le_refl _) _⟩

theorem value_10 (i u : Int) (f : Nat) (s : ByteArray) (l m : Value) (w : World) :
    Calls Tryz.prog 40 #[.agg #[.int .i64 10, .int .i64 i, .int .u64 u, .float .f64 f, .string s, l, m]] w fun e w' => e = .returned (.iface 127 (.int .u32 (IntKind.u32.wrap u))) ∧ Below w.heap.size w w' := by
  go_enter Tryz.func40, Tryz.ntmps40
  go_wp2
  go_ret
  exact ⟨rfl, (Below.refl _ _).alloc (Nat.le_refl _) _⟩

theorem value_11 (i u : Int) (f : Nat) (s : ByteArray) (l m : Value) (w : World) :
    Calls Tryz.prog 40 #[.agg #[.int .i64 11, .int .i64 i, .int .u64 u, .float .f64 f, .string s, l, m]] w fun e w' => e = .returned (.iface 24 (.int .u64 u)) ∧ Below w.heap.size w w' := by
  go_enter Tryz.func40, Tryz.ntmps40
  go_wp2
  go_ret
  exact ⟨rfl, (Below.refl _ _).alloc (Nat.le_refl _) _⟩

theorem value_13 (i u : Int) (f : Nat) (s : ByteArray) (l m : Value) (w : World) :
    Calls Tryz.prog 40 #[.agg #[.int .i64 13, .int .i64 i, .int .u64 u, .float .f64 f, .string s, l, m]] w fun e w' => e = .returned (.iface 25 (.float .f64 f)) ∧ Below w.heap.size w w' := by
  go_enter Tryz.func40, Tryz.ntmps40
  go_wp2
  go_ret
  exact ⟨rfl, (Below.refl _ _).alloc (Nat.le_refl _) _⟩

theorem value_14 (i u : Int) (f : Nat) (s : ByteArray) (l m : Value) (w : World) :
    Calls Tryz.prog 40 #[.agg #[.int .i64 14, .int .i64 i, .int .u64 u, .float .f64 f, .string s, l, m]] w fun e w' => e = .returned (.iface 9 (.string s)) ∧ Below w.heap.size w w' := by
  go_enter Tryz.func40, Tryz.ntmps40
  go_wp2
  go_ret
  exact ⟨rfl, (Below.refl _ _).alloc (Nat.le_refl _) _⟩

theorem value_12 (i u : Int) (f g : Nat) (s : ByteArray) (l m : Value) (w : World) (hf : floatToFloatBits .f64 f .f32 = some g) :
    Calls Tryz.prog 40 #[.agg #[.int .i64 12, .int .i64 i, .int .u64 u, .float .f64 f, .string s, l, m]] w fun e w' => e = .returned (.iface 66 (.float .f32 g)) ∧ Below w.heap.size w w' := by
  have hc := fun w => run_convert_float_float (P := Tryz.prog) w 25 66 .f64 .f32 f g (by rw [Tryz.underlying25]; rfl) Tryz.underlying66 hf
  clear hf
  go_enter Tryz.func40, Tryz.ntmps40
  go_wp2
  go_ret
  exact ⟨rfl, (Below.refl _ _).alloc (Nat.le_refl _) _⟩

end Go.Proofs.YtnggkkdcddpjlaaGreatDoor