/- What a type switch's test answers at this program's types: the value where the boxed type is the asked one, else the zero value, and whether it is. -/
import Derived.Test.YtnggkkdcddpjlaaGreatDoorC0
namespace Go.Proofs.YtnggkkdcddpjlaaGreatDoor
open Go.RowKit
theorem run_ta {P : Program} {A t x : TypeId} {v : Value} {u : TypeDesc} {z : Value} (w : World) (hu : P.underlying A = some u) (hn : ∀ ms, u ≠ .interface ms) (hz : (zeroValue A).run P w = .ok z w) :
    (Instr.typeAssert (.iface t v) x A true).run P w = if t = A then .ok (.tuple #[v, .bool true]) w else .ok (.tuple #[z, .bool false]) w := by
  unfold Instr.typeAssert
  by_cases h : t = A
  · cases u <;> first | (exact absurd rfl (hn _)) | simp [run_underlying hu, h]
  · cases u <;> first | (exact absurd rfl (hn _)) | simp [run_underlying hu, h, hz]
theorem run_ta_nil {P : Program} {A x : TypeId} {u : TypeDesc} {z : Value} (w : World) (hu : P.underlying A = some u) (hn : ∀ ms, u ≠ .interface ms) (hz : (zeroValue A).run P w = .ok z w) :
    (Instr.typeAssert .nilIface x A true).run P w = .ok (.tuple #[z, .bool false]) w := by
  unfold Instr.typeAssert
  cases u <;> first | (exact absurd rfl (hn _)) | simp [run_underlying hu, hz]

theorem z_9 (w : World) : (zeroValue 9).run Tryz.prog w = .ok (.string ⟨#[]⟩) w := by kernel_rfl
@[go_sem] theorem ta_9 (x t : TypeId) (v : Value) (w : World) : (Instr.typeAssert (.iface t v) x 9 true).run Tryz.prog w = if t = 9 then .ok (.tuple #[v, .bool true]) w else .ok (.tuple #[.string ⟨#[]⟩, .bool false]) w :=
  run_ta w Tryz.underlying9 (by intro ms h; cases h) (z_9 w)
@[go_sem] theorem tn_9 (x : TypeId) (w : World) : (Instr.typeAssert .nilIface x 9 true).run Tryz.prog w = .ok (.tuple #[.string ⟨#[]⟩, .bool false]) w :=
  run_ta_nil w Tryz.underlying9 (by intro ms h; cases h) (z_9 w)

theorem z_4 (w : World) : (zeroValue 4).run Tryz.prog w = .ok (.bool false) w := by kernel_rfl
@[go_sem] theorem ta_4 (x t : TypeId) (v : Value) (w : World) : (Instr.typeAssert (.iface t v) x 4 true).run Tryz.prog w = if t = 4 then .ok (.tuple #[v, .bool true]) w else .ok (.tuple #[.bool false, .bool false]) w :=
  run_ta w Tryz.underlying4 (by intro ms h; cases h) (z_4 w)
@[go_sem] theorem tn_4 (x : TypeId) (w : World) : (Instr.typeAssert .nilIface x 4 true).run Tryz.prog w = .ok (.tuple #[.bool false, .bool false]) w :=
  run_ta_nil w Tryz.underlying4 (by intro ms h; cases h) (z_4 w)

theorem z_25 (w : World) : (zeroValue 25).run Tryz.prog w = .ok (.float .f64 0) w := by kernel_rfl
@[go_sem] theorem ta_25 (x t : TypeId) (v : Value) (w : World) : (Instr.typeAssert (.iface t v) x 25 true).run Tryz.prog w = if t = 25 then .ok (.tuple #[v, .bool true]) w else .ok (.tuple #[.float .f64 0, .bool false]) w :=
  run_ta w Tryz.underlying25 (by intro ms h; cases h) (z_25 w)
@[go_sem] theorem tn_25 (x : TypeId) (w : World) : (Instr.typeAssert .nilIface x 25 true).run Tryz.prog w = .ok (.tuple #[.float .f64 0, .bool false]) w :=
  run_ta_nil w Tryz.underlying25 (by intro ms h; cases h) (z_25 w)

theorem z_66 (w : World) : (zeroValue 66).run Tryz.prog w = .ok (.float .f32 0) w := by kernel_rfl
@[go_sem] theorem ta_66 (x t : TypeId) (v : Value) (w : World) : (Instr.typeAssert (.iface t v) x 66 true).run Tryz.prog w = if t = 66 then .ok (.tuple #[v, .bool true]) w else .ok (.tuple #[.float .f32 0, .bool false]) w :=
  run_ta w Tryz.underlying66 (by intro ms h; cases h) (z_66 w)
@[go_sem] theorem tn_66 (x : TypeId) (w : World) : (Instr.typeAssert .nilIface x 66 true).run Tryz.prog w = .ok (.tuple #[.float .f32 0, .bool false]) w :=
  run_ta_nil w Tryz.underlying66 (by intro ms h; cases h) (z_66 w)

theorem z_3 (w : World) : (zeroValue 3).run Tryz.prog w = .ok (.int .i64 0) w := by kernel_rfl
@[go_sem] theorem ta_3 (x t : TypeId) (v : Value) (w : World) : (Instr.typeAssert (.iface t v) x 3 true).run Tryz.prog w = if t = 3 then .ok (.tuple #[v, .bool true]) w else .ok (.tuple #[.int .i64 0, .bool false]) w :=
  run_ta w Tryz.underlying3 (by intro ms h; cases h) (z_3 w)
@[go_sem] theorem tn_3 (x : TypeId) (w : World) : (Instr.typeAssert .nilIface x 3 true).run Tryz.prog w = .ok (.tuple #[.int .i64 0, .bool false]) w :=
  run_ta_nil w Tryz.underlying3 (by intro ms h; cases h) (z_3 w)

theorem z_81 (w : World) : (zeroValue 81).run Tryz.prog w = .ok (.int .i8 0) w := by kernel_rfl
@[go_sem] theorem ta_81 (x t : TypeId) (v : Value) (w : World) : (Instr.typeAssert (.iface t v) x 81 true).run Tryz.prog w = if t = 81 then .ok (.tuple #[v, .bool true]) w else .ok (.tuple #[.int .i8 0, .bool false]) w :=
  run_ta w Tryz.underlying81 (by intro ms h; cases h) (z_81 w)
@[go_sem] theorem tn_81 (x : TypeId) (w : World) : (Instr.typeAssert .nilIface x 81 true).run Tryz.prog w = .ok (.tuple #[.int .i8 0, .bool false]) w :=
  run_ta_nil w Tryz.underlying81 (by intro ms h; cases h) (z_81 w)

theorem z_82 (w : World) : (zeroValue 82).run Tryz.prog w = .ok (.int .i16 0) w := by kernel_rfl
@[go_sem] theorem ta_82 (x t : TypeId) (v : Value) (w : World) : (Instr.typeAssert (.iface t v) x 82 true).run Tryz.prog w = if t = 82 then .ok (.tuple #[v, .bool true]) w else .ok (.tuple #[.int .i16 0, .bool false]) w :=
  run_ta w Tryz.underlying82 (by intro ms h; cases h) (z_82 w)
@[go_sem] theorem tn_82 (x : TypeId) (w : World) : (Instr.typeAssert .nilIface x 82 true).run Tryz.prog w = .ok (.tuple #[.int .i16 0, .bool false]) w :=
  run_ta_nil w Tryz.underlying82 (by intro ms h; cases h) (z_82 w)

theorem z_21 (w : World) : (zeroValue 21).run Tryz.prog w = .ok (.int .i32 0) w := by kernel_rfl
@[go_sem] theorem ta_21 (x t : TypeId) (v : Value) (w : World) : (Instr.typeAssert (.iface t v) x 21 true).run Tryz.prog w = if t = 21 then .ok (.tuple #[v, .bool true]) w else .ok (.tuple #[.int .i32 0, .bool false]) w :=
  run_ta w Tryz.underlying21 (by intro ms h; cases h) (z_21 w)
@[go_sem] theorem tn_21 (x : TypeId) (w : World) : (Instr.typeAssert .nilIface x 21 true).run Tryz.prog w = .ok (.tuple #[.int .i32 0, .bool false]) w :=
  run_ta_nil w Tryz.underlying21 (by intro ms h; cases h) (z_21 w)

theorem z_2 (w : World) : (zeroValue 2).run Tryz.prog w = .ok (.int .i64 0) w := by kernel_rfl
@[go_sem] theorem ta_2 (x t : TypeId) (v : Value) (w : World) : (Instr.typeAssert (.iface t v) x 2 true).run Tryz.prog w = if t = 2 then .ok (.tuple #[v, .bool true]) w else .ok (.tuple #[.int .i64 0, .bool false]) w :=
  run_ta w Tryz.underlying2 (by intro ms h; cases h) (z_2 w)
@[go_sem] theorem tn_2 (x : TypeId) (w : World) : (Instr.typeAssert .nilIface x 2 true).run Tryz.prog w = .ok (.tuple #[.int .i64 0, .bool false]) w :=
  run_ta_nil w Tryz.underlying2 (by intro ms h; cases h) (z_2 w)

theorem z_80 (w : World) : (zeroValue 80).run Tryz.prog w = .ok (.int .u64 0) w := by kernel_rfl
@[go_sem] theorem ta_80 (x t : TypeId) (v : Value) (w : World) : (Instr.typeAssert (.iface t v) x 80 true).run Tryz.prog w = if t = 80 then .ok (.tuple #[v, .bool true]) w else .ok (.tuple #[.int .u64 0, .bool false]) w :=
  run_ta w Tryz.underlying80 (by intro ms h; cases h) (z_80 w)
@[go_sem] theorem tn_80 (x : TypeId) (w : World) : (Instr.typeAssert .nilIface x 80 true).run Tryz.prog w = .ok (.tuple #[.int .u64 0, .bool false]) w :=
  run_ta_nil w Tryz.underlying80 (by intro ms h; cases h) (z_80 w)

theorem z_5 (w : World) : (zeroValue 5).run Tryz.prog w = .ok (.int .u8 0) w := by kernel_rfl
@[go_sem] theorem ta_5 (x t : TypeId) (v : Value) (w : World) : (Instr.typeAssert (.iface t v) x 5 true).run Tryz.prog w = if t = 5 then .ok (.tuple #[v, .bool true]) w else .ok (.tuple #[.int .u8 0, .bool false]) w :=
  run_ta w Tryz.underlying5 (by intro ms h; cases h) (z_5 w)
@[go_sem] theorem tn_5 (x : TypeId) (w : World) : (Instr.typeAssert .nilIface x 5 true).run Tryz.prog w = .ok (.tuple #[.int .u8 0, .bool false]) w :=
  run_ta_nil w Tryz.underlying5 (by intro ms h; cases h) (z_5 w)

theorem z_126 (w : World) : (zeroValue 126).run Tryz.prog w = .ok (.int .u16 0) w := by kernel_rfl
@[go_sem] theorem ta_126 (x t : TypeId) (v : Value) (w : World) : (Instr.typeAssert (.iface t v) x 126 true).run Tryz.prog w = if t = 126 then .ok (.tuple #[v, .bool true]) w else .ok (.tuple #[.int .u16 0, .bool false]) w :=
  run_ta w Tryz.underlying126 (by intro ms h; cases h) (z_126 w)
@[go_sem] theorem tn_126 (x : TypeId) (w : World) : (Instr.typeAssert .nilIface x 126 true).run Tryz.prog w = .ok (.tuple #[.int .u16 0, .bool false]) w :=
  run_ta_nil w Tryz.underlying126 (by intro ms h; cases h) (z_126 w)

theorem z_127 (w : World) : (zeroValue 127).run Tryz.prog w = .ok (.int .u32 0) w := by kernel_rfl
@[go_sem] theorem ta_127 (x t : TypeId) (v : Value) (w : World) : (Instr.typeAssert (.iface t v) x 127 true).run Tryz.prog w = if t = 127 then .ok (.tuple #[v, .bool true]) w else .ok (.tuple #[.int .u32 0, .bool false]) w :=
  run_ta w Tryz.underlying127 (by intro ms h; cases h) (z_127 w)
@[go_sem] theorem tn_127 (x : TypeId) (w : World) : (Instr.typeAssert .nilIface x 127 true).run Tryz.prog w = .ok (.tuple #[.int .u32 0, .bool false]) w :=
  run_ta_nil w Tryz.underlying127 (by intro ms h; cases h) (z_127 w)

theorem z_24 (w : World) : (zeroValue 24).run Tryz.prog w = .ok (.int .u64 0) w := by kernel_rfl
@[go_sem] theorem ta_24 (x t : TypeId) (v : Value) (w : World) : (Instr.typeAssert (.iface t v) x 24 true).run Tryz.prog w = if t = 24 then .ok (.tuple #[v, .bool true]) w else .ok (.tuple #[.int .u64 0, .bool false]) w :=
  run_ta w Tryz.underlying24 (by intro ms h; cases h) (z_24 w)
@[go_sem] theorem tn_24 (x : TypeId) (w : World) : (Instr.typeAssert .nilIface x 24 true).run Tryz.prog w = .ok (.tuple #[.int .u64 0, .bool false]) w :=
  run_ta_nil w Tryz.underlying24 (by intro ms h; cases h) (z_24 w)

theorem z_130 (w : World) : (zeroValue 130).run Tryz.prog w = .ok (.slice none 0 0) w := by kernel_rfl
@[go_sem] theorem ta_130 (x t : TypeId) (v : Value) (w : World) : (Instr.typeAssert (.iface t v) x 130 true).run Tryz.prog w = if t = 130 then .ok (.tuple #[v, .bool true]) w else .ok (.tuple #[.slice none 0 0, .bool false]) w :=
  run_ta w Tryz.underlying130 (by intro ms h; cases h) (z_130 w)
@[go_sem] theorem tn_130 (x : TypeId) (w : World) : (Instr.typeAssert .nilIface x 130 true).run Tryz.prog w = .ok (.tuple #[.slice none 0 0, .bool false]) w :=
  run_ta_nil w Tryz.underlying130 (by intro ms h; cases h) (z_130 w)

theorem z_146 (w : World) : (zeroValue 146).run Tryz.prog w = .ok (.pointer none) w := by kernel_rfl
@[go_sem] theorem ta_146 (x t : TypeId) (v : Value) (w : World) : (Instr.typeAssert (.iface t v) x 146 true).run Tryz.prog w = if t = 146 then .ok (.tuple #[v, .bool true]) w else .ok (.tuple #[.pointer none, .bool false]) w :=
  run_ta w Tryz.underlying146 (by intro ms h; cases h) (z_146 w)
@[go_sem] theorem tn_146 (x : TypeId) (w : World) : (Instr.typeAssert .nilIface x 146 true).run Tryz.prog w = .ok (.tuple #[.pointer none, .bool false]) w :=
  run_ta_nil w Tryz.underlying146 (by intro ms h; cases h) (z_146 w)

theorem z_147 (w : World) : (zeroValue 147).run Tryz.prog w = .ok (.pointer none) w := by kernel_rfl
@[go_sem] theorem ta_147 (x t : TypeId) (v : Value) (w : World) : (Instr.typeAssert (.iface t v) x 147 true).run Tryz.prog w = if t = 147 then .ok (.tuple #[v, .bool true]) w else .ok (.tuple #[.pointer none, .bool false]) w :=
  run_ta w Tryz.underlying147 (by intro ms h; cases h) (z_147 w)
@[go_sem] theorem tn_147 (x : TypeId) (w : World) : (Instr.typeAssert .nilIface x 147 true).run Tryz.prog w = .ok (.tuple #[.pointer none, .bool false]) w :=
  run_ta_nil w Tryz.underlying147 (by intro ms h; cases h) (z_147 w)

theorem z_128 (w : World) : (zeroValue 128).run Tryz.prog w = .ok (.int .i64 0) w := by kernel_rfl
@[go_sem] theorem ta_128 (x t : TypeId) (v : Value) (w : World) : (Instr.typeAssert (.iface t v) x 128 true).run Tryz.prog w = if t = 128 then .ok (.tuple #[v, .bool true]) w else .ok (.tuple #[.int .i64 0, .bool false]) w :=
  run_ta w Tryz.underlying128 (by intro ms h; cases h) (z_128 w)
@[go_sem] theorem tn_128 (x : TypeId) (w : World) : (Instr.typeAssert .nilIface x 128 true).run Tryz.prog w = .ok (.tuple #[.int .i64 0, .bool false]) w :=
  run_ta_nil w Tryz.underlying128 (by intro ms h; cases h) (z_128 w)

theorem z_277 (w : World) : (zeroValue 277).run Tryz.prog w = .ok (.int .i64 0) w := by kernel_rfl
@[go_sem] theorem ta_277 (x t : TypeId) (v : Value) (w : World) : (Instr.typeAssert (.iface t v) x 277 true).run Tryz.prog w = if t = 277 then .ok (.tuple #[v, .bool true]) w else .ok (.tuple #[.int .i64 0, .bool false]) w :=
  run_ta w Tryz.underlying277 (by intro ms h; cases h) (z_277 w)
@[go_sem] theorem tn_277 (x : TypeId) (w : World) : (Instr.typeAssert .nilIface x 277 true).run Tryz.prog w = .ok (.tuple #[.int .i64 0, .bool false]) w :=
  run_ta_nil w Tryz.underlying277 (by intro ms h; cases h) (z_277 w)

theorem z_278 (w : World) : (zeroValue 278).run Tryz.prog w = .ok (.int .i64 0) w := by kernel_rfl
@[go_sem] theorem ta_278 (x t : TypeId) (v : Value) (w : World) : (Instr.typeAssert (.iface t v) x 278 true).run Tryz.prog w = if t = 278 then .ok (.tuple #[v, .bool true]) w else .ok (.tuple #[.int .i64 0, .bool false]) w :=
  run_ta w Tryz.underlying278 (by intro ms h; cases h) (z_278 w)
@[go_sem] theorem tn_278 (x : TypeId) (w : World) : (Instr.typeAssert .nilIface x 278 true).run Tryz.prog w = .ok (.tuple #[.int .i64 0, .bool false]) w :=
  run_ta_nil w Tryz.underlying278 (by intro ms h; cases h) (z_278 w)

theorem z_33 (w : World) : (zeroValue 33).run Tryz.prog w = .ok (.map none) w := by kernel_rfl
@[go_sem] theorem ta_33 (x t : TypeId) (v : Value) (w : World) : (Instr.typeAssert (.iface t v) x 33 true).run Tryz.prog w = if t = 33 then .ok (.tuple #[v, .bool true]) w else .ok (.tuple #[.map none, .bool false]) w :=
  run_ta w Tryz.underlying33 (by intro ms h; cases h) (z_33 w)
@[go_sem] theorem tn_33 (x : TypeId) (w : World) : (Instr.typeAssert .nilIface x 33 true).run Tryz.prog w = .ok (.tuple #[.map none, .bool false]) w :=
  run_ta_nil w Tryz.underlying33 (by intro ms h; cases h) (z_33 w)

theorem z_49 (w : World) : (zeroValue 49).run Tryz.prog w = .ok (.map none) w := by kernel_rfl
@[go_sem] theorem ta_49 (x t : TypeId) (v : Value) (w : World) : (Instr.typeAssert (.iface t v) x 49 true).run Tryz.prog w = if t = 49 then .ok (.tuple #[v, .bool true]) w else .ok (.tuple #[.map none, .bool false]) w :=
  run_ta w Tryz.underlying49 (by intro ms h; cases h) (z_49 w)
@[go_sem] theorem tn_49 (x : TypeId) (w : World) : (Instr.typeAssert .nilIface x 49 true).run Tryz.prog w = .ok (.tuple #[.map none, .bool false]) w :=
  run_ta_nil w Tryz.underlying49 (by intro ms h; cases h) (z_49 w)

theorem z_88 (w : World) : (zeroValue 88).run Tryz.prog w = .ok (.map none) w := by kernel_rfl
@[go_sem] theorem ta_88 (x t : TypeId) (v : Value) (w : World) : (Instr.typeAssert (.iface t v) x 88 true).run Tryz.prog w = if t = 88 then .ok (.tuple #[v, .bool true]) w else .ok (.tuple #[.map none, .bool false]) w :=
  run_ta w Tryz.underlying88 (by intro ms h; cases h) (z_88 w)
@[go_sem] theorem tn_88 (x : TypeId) (w : World) : (Instr.typeAssert .nilIface x 88 true).run Tryz.prog w = .ok (.tuple #[.map none, .bool false]) w :=
  run_ta_nil w Tryz.underlying88 (by intro ms h; cases h) (z_88 w)

theorem z_93 (w : World) : (zeroValue 93).run Tryz.prog w = .ok (.map none) w := by kernel_rfl
@[go_sem] theorem ta_93 (x t : TypeId) (v : Value) (w : World) : (Instr.typeAssert (.iface t v) x 93 true).run Tryz.prog w = if t = 93 then .ok (.tuple #[v, .bool true]) w else .ok (.tuple #[.map none, .bool false]) w :=
  run_ta w Tryz.underlying93 (by intro ms h; cases h) (z_93 w)
@[go_sem] theorem tn_93 (x : TypeId) (w : World) : (Instr.typeAssert .nilIface x 93 true).run Tryz.prog w = .ok (.tuple #[.map none, .bool false]) w :=
  run_ta_nil w Tryz.underlying93 (by intro ms h; cases h) (z_93 w)

theorem z_220 (w : World) : (zeroValue 220).run Tryz.prog w = .ok (.map none) w := by kernel_rfl
@[go_sem] theorem ta_220 (x t : TypeId) (v : Value) (w : World) : (Instr.typeAssert (.iface t v) x 220 true).run Tryz.prog w = if t = 220 then .ok (.tuple #[v, .bool true]) w else .ok (.tuple #[.map none, .bool false]) w :=
  run_ta w Tryz.underlying220 (by intro ms h; cases h) (z_220 w)
@[go_sem] theorem tn_220 (x : TypeId) (w : World) : (Instr.typeAssert .nilIface x 220 true).run Tryz.prog w = .ok (.tuple #[.map none, .bool false]) w :=
  run_ta_nil w Tryz.underlying220 (by intro ms h; cases h) (z_220 w)

theorem z_221 (w : World) : (zeroValue 221).run Tryz.prog w = .ok (.map none) w := by kernel_rfl
@[go_sem] theorem ta_221 (x t : TypeId) (v : Value) (w : World) : (Instr.typeAssert (.iface t v) x 221 true).run Tryz.prog w = if t = 221 then .ok (.tuple #[v, .bool true]) w else .ok (.tuple #[.map none, .bool false]) w :=
  run_ta w Tryz.underlying221 (by intro ms h; cases h) (z_221 w)
@[go_sem] theorem tn_221 (x : TypeId) (w : World) : (Instr.typeAssert .nilIface x 221 true).run Tryz.prog w = .ok (.tuple #[.map none, .bool false]) w :=
  run_ta_nil w Tryz.underlying221 (by intro ms h; cases h) (z_221 w)

theorem z_261 (w : World) : (zeroValue 261).run Tryz.prog w = .ok (.map none) w := by kernel_rfl
@[go_sem] theorem ta_261 (x t : TypeId) (v : Value) (w : World) : (Instr.typeAssert (.iface t v) x 261 true).run Tryz.prog w = if t = 261 then .ok (.tuple #[v, .bool true]) w else .ok (.tuple #[.map none, .bool false]) w :=
  run_ta w Tryz.underlying261 (by intro ms h; cases h) (z_261 w)
@[go_sem] theorem tn_261 (x : TypeId) (w : World) : (Instr.typeAssert .nilIface x 261 true).run Tryz.prog w = .ok (.tuple #[.map none, .bool false]) w :=
  run_ta_nil w Tryz.underlying261 (by intro ms h; cases h) (z_261 w)

theorem z_276 (w : World) : (zeroValue 276).run Tryz.prog w = .ok (.map none) w := by kernel_rfl
@[go_sem] theorem ta_276 (x t : TypeId) (v : Value) (w : World) : (Instr.typeAssert (.iface t v) x 276 true).run Tryz.prog w = if t = 276 then .ok (.tuple #[v, .bool true]) w else .ok (.tuple #[.map none, .bool false]) w :=
  run_ta w Tryz.underlying276 (by intro ms h; cases h) (z_276 w)
@[go_sem] theorem tn_276 (x : TypeId) (w : World) : (Instr.typeAssert .nilIface x 276 true).run Tryz.prog w = .ok (.tuple #[.map none, .bool false]) w :=
  run_ta_nil w Tryz.underlying276 (by intro ms h; cases h) (z_276 w)

end Go.Proofs.YtnggkkdcddpjlaaGreatDoor