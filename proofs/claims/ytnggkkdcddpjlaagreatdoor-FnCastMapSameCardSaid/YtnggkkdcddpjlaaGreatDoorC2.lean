/- A text that strconv.ParseInt reads as N, cast to each int type that has N: N. -/
import Derived.Test.YtnggkkdcddpjlaaGreatDoorC1
import Derived.Test.YtnggkkdcddpjlaaGreatDoorT7
namespace Go.Proofs.YtnggkkdcddpjlaaGreatDoor
open Go.RowKit
set_option maxRecDepth 100000
set_option linter.unusedVariables false


theorem parseInt_int (s : ByteArray) (hs : s.size ≤ 4611686018427387903) (hdot : decide (0 ≤ Lib.indexB s ⟨#[46]⟩) = false) (N : Int)
    (hP : ∀ w, Calls Tryz.prog 155 #[.string s, .int .i64 0, .int .i64 0] w fun e w' => e = .returned (.tuple #[.int .i64 N, .nilIface]) ∧ Below w.heap.size w w') (w : World) :
    Calls Tryz.prog 115 #[.string s] w fun e w' => e = .returned (.tuple #[.int .i64 N, .nilIface]) ∧ Below w.heap.size w w' := by
  have HP := Lib.hid hP
  have HD := Lib.hid hdot
  clear hP hdot
  go_enter Tryz.func115, Tryz.ntmps115
  go_wp2_with (first | (go_at_call 156; refine (trim_no s hs HD.out _).mono ?_; rintro e w' ⟨rfl, rfl⟩) | (go_at_call 155; refine (HP.out _).mono ?_; rintro e w' ⟨rfl, hb⟩))
  go_ret2
  exact ⟨rfl, hb⟩

theorem toNumber_int_string (s : ByteArray) (w : World) :
    Calls Tryz.prog 154 #[.iface 9 (.string s)] w fun e w' => e = .returned (.tuple #[.int .i64 0, .bool false]) ∧ w = w' := by
  go_enter Tryz.func154, Tryz.ntmps154
  go_wp2
  go_ret2
  exact ⟨rfl, rfl⟩

theorem toNumberE_int_string (s : ByteArray) (hne : s.toList.isEmpty = false) (N : Int)
    (hP : ∀ w, Calls Tryz.prog 115 #[.string s] w fun e w' => e = .returned (.tuple #[.int .i64 N, .nilIface]) ∧ Below w.heap.size w w') (w : World) :
    Calls Tryz.prog 114 #[.iface 9 (.string s), .func (.func 115) #[] #[]] w fun e w' => e = .returned (.tuple #[.int .i64 N, .nilIface]) ∧ Below w.heap.size w w' := by
  have HP := Lib.hid hP
  clear hP
  go_enter Tryz.func114, Tryz.ntmps114
  go_wp2_with (first | (go_at_call 154; refine (toNumber_int_string s _).mono ?_; rintro e w' ⟨rfl, rfl⟩) | (go_at_call 115; refine (HP.out _).mono ?_; rintro e w' ⟨rfl, hb⟩) | (go_at_call 79; go_in))
  go_ret2
  exact ⟨rfl, hb⟩

theorem toE_int_string (s : ByteArray) (hne : s.toList.isEmpty = false) (N : Int)
    (hP : ∀ w, Calls Tryz.prog 115 #[.string s] w fun e w' => e = .returned (.tuple #[.int .i64 N, .nilIface]) ∧ Below w.heap.size w w') (w : World) :
    Calls Tryz.prog 58 #[.iface 9 (.string s)] w fun e w' => e = .returned (.tuple #[.int .i64 N, .nilIface]) ∧ Below w.heap.size w w' := by
  have HP := Lib.hid hP
  clear hP
  go_enter Tryz.func58, Tryz.ntmps58
  go_wp2_with (go_at_call 114; refine (toNumberE_int_string s hne N HP.out _).mono ?_; rintro e w' ⟨rfl, hb⟩)
  go_ret2
  exact ⟨rfl, hb⟩

theorem to_int_string (i u : Int) (f : Nat) (l m : Value) (s : ByteArray) (hne : s.toList.isEmpty = false) (N : Int) (h0 : -9223372036854775808 ≤ N) (h1 : N ≤ 9223372036854775807)
    (hP : ∀ w, Calls Tryz.prog 115 #[.string s] w fun e w' => e = .returned (.tuple #[.int .i64 N, .nilIface]) ∧ Below w.heap.size w w') (w : World) :
    Calls Tryz.prog 25 #[.agg #[.int .i64 14, .int .i64 i, .int .u64 u, .float .f64 f, .string s, l, m]] w fun e w' => e = .returned (.tuple #[.int .i64 N, .bool true]) ∧ Below w.heap.size w w' := by
  have HP := Lib.hid hP
  clear hP
  go_enter Tryz.func25, Tryz.ntmps25
  go_wp2_with (first | (go_at_call 40; refine (value_14 _ _ _ _ _ _ _).mono ?_; rintro e w1 ⟨rfl, hb1⟩) | (go_at_call 58; refine (toE_int_string s hne N HP.out _).mono ?_; rintro e w2 ⟨rfl, hb2⟩))
  go_quiet (fail)
  go_wp2
  go_ret2
  exact ⟨rfl, belowOn (belowOn (below_alloc w _) (belowOn hb1 hb2)) (below_drewN _ _)⟩


theorem parseInt_int8 (s : ByteArray) (hs : s.size ≤ 4611686018427387903) (hdot : decide (0 ≤ Lib.indexB s ⟨#[46]⟩) = false) (N : Int) (h0 : -128 ≤ N) (h1 : N ≤ 127)
    (hP : ∀ w, Calls Tryz.prog 155 #[.string s, .int .i64 0, .int .i64 0] w fun e w' => e = .returned (.tuple #[.int .i64 N, .nilIface]) ∧ Below w.heap.size w w') (w : World) :
    Calls Tryz.prog 144 #[.string s] w fun e w' => e = .returned (.tuple #[.int .i8 N, .nilIface]) ∧ Below w.heap.size w w' := by
  have HP := Lib.hid hP
  have HD := Lib.hid hdot
  clear hP hdot
  go_enter Tryz.func144, Tryz.ntmps144
  go_wp2_with (first | (go_at_call 156; refine (trim_no s hs HD.out _).mono ?_; rintro e w' ⟨rfl, rfl⟩) | (go_at_call 155; refine (HP.out _).mono ?_; rintro e w' ⟨rfl, hb⟩))
  go_ret2
  exact ⟨rfl, hb⟩

theorem toNumber_int8_string (s : ByteArray) (w : World) :
    Calls Tryz.prog 182 #[.iface 9 (.string s)] w fun e w' => e = .returned (.tuple #[.int .i8 0, .bool false]) ∧ w = w' := by
  go_enter Tryz.func182, Tryz.ntmps182
  go_wp2
  go_ret2
  exact ⟨rfl, rfl⟩

theorem toNumberE_int8_string (s : ByteArray) (hne : s.toList.isEmpty = false) (N : Int)
    (hP : ∀ w, Calls Tryz.prog 144 #[.string s] w fun e w' => e = .returned (.tuple #[.int .i8 N, .nilIface]) ∧ Below w.heap.size w w') (w : World) :
    Calls Tryz.prog 143 #[.iface 9 (.string s), .func (.func 144) #[] #[]] w fun e w' => e = .returned (.tuple #[.int .i8 N, .nilIface]) ∧ Below w.heap.size w w' := by
  have HP := Lib.hid hP
  clear hP
  go_enter Tryz.func143, Tryz.ntmps143
  go_wp2_with (first | (go_at_call 182; refine (toNumber_int8_string s _).mono ?_; rintro e w' ⟨rfl, rfl⟩) | (go_at_call 144; refine (HP.out _).mono ?_; rintro e w' ⟨rfl, hb⟩) | (go_at_call 79; go_in))
  go_ret2
  exact ⟨rfl, hb⟩

theorem toE_int8_string (s : ByteArray) (hne : s.toList.isEmpty = false) (N : Int)
    (hP : ∀ w, Calls Tryz.prog 144 #[.string s] w fun e w' => e = .returned (.tuple #[.int .i8 N, .nilIface]) ∧ Below w.heap.size w w') (w : World) :
    Calls Tryz.prog 105 #[.iface 9 (.string s)] w fun e w' => e = .returned (.tuple #[.int .i8 N, .nilIface]) ∧ Below w.heap.size w w' := by
  have HP := Lib.hid hP
  clear hP
  go_enter Tryz.func105, Tryz.ntmps105
  go_wp2_with (go_at_call 143; refine (toNumberE_int8_string s hne N HP.out _).mono ?_; rintro e w' ⟨rfl, hb⟩)
  go_ret2
  exact ⟨rfl, hb⟩

theorem to_int8_string (i u : Int) (f : Nat) (l m : Value) (s : ByteArray) (hne : s.toList.isEmpty = false) (N : Int) (h0 : -128 ≤ N) (h1 : N ≤ 127)
    (hP : ∀ w, Calls Tryz.prog 144 #[.string s] w fun e w' => e = .returned (.tuple #[.int .i8 N, .nilIface]) ∧ Below w.heap.size w w') (w : World) :
    Calls Tryz.prog 44 #[.agg #[.int .i64 14, .int .i64 i, .int .u64 u, .float .f64 f, .string s, l, m]] w fun e w' => e = .returned (.tuple #[.int .i64 N, .bool true]) ∧ Below w.heap.size w w' := by
  have HP := Lib.hid hP
  clear hP
  go_enter Tryz.func44, Tryz.ntmps44
  go_wp2_with (first | (go_at_call 40; refine (value_14 _ _ _ _ _ _ _).mono ?_; rintro e w1 ⟨rfl, hb1⟩) | (go_at_call 105; refine (toE_int8_string s hne N HP.out _).mono ?_; rintro e w2 ⟨rfl, hb2⟩))
  go_quiet (fail)
  go_wp2
  go_ret2
  exact ⟨rfl, belowOn (belowOn (below_alloc w _) (belowOn hb1 hb2)) (below_drewN _ _)⟩


theorem parseInt_int16 (s : ByteArray) (hs : s.size ≤ 4611686018427387903) (hdot : decide (0 ≤ Lib.indexB s ⟨#[46]⟩) = false) (N : Int) (h0 : -32768 ≤ N) (h1 : N ≤ 32767)
    (hP : ∀ w, Calls Tryz.prog 155 #[.string s, .int .i64 0, .int .i64 0] w fun e w' => e = .returned (.tuple #[.int .i64 N, .nilIface]) ∧ Below w.heap.size w w') (w : World) :
    Calls Tryz.prog 146 #[.string s] w fun e w' => e = .returned (.tuple #[.int .i16 N, .nilIface]) ∧ Below w.heap.size w w' := by
  have HP := Lib.hid hP
  have HD := Lib.hid hdot
  clear hP hdot
  go_enter Tryz.func146, Tryz.ntmps146
  go_wp2_with (first | (go_at_call 156; refine (trim_no s hs HD.out _).mono ?_; rintro e w' ⟨rfl, rfl⟩) | (go_at_call 155; refine (HP.out _).mono ?_; rintro e w' ⟨rfl, hb⟩))
  go_ret2
  exact ⟨rfl, hb⟩

theorem toNumber_int16_string (s : ByteArray) (w : World) :
    Calls Tryz.prog 183 #[.iface 9 (.string s)] w fun e w' => e = .returned (.tuple #[.int .i16 0, .bool false]) ∧ w = w' := by
  go_enter Tryz.func183, Tryz.ntmps183
  go_wp2
  go_ret2
  exact ⟨rfl, rfl⟩

theorem toNumberE_int16_string (s : ByteArray) (hne : s.toList.isEmpty = false) (N : Int)
    (hP : ∀ w, Calls Tryz.prog 146 #[.string s] w fun e w' => e = .returned (.tuple #[.int .i16 N, .nilIface]) ∧ Below w.heap.size w w') (w : World) :
    Calls Tryz.prog 145 #[.iface 9 (.string s), .func (.func 146) #[] #[]] w fun e w' => e = .returned (.tuple #[.int .i16 N, .nilIface]) ∧ Below w.heap.size w w' := by
  have HP := Lib.hid hP
  clear hP
  go_enter Tryz.func145, Tryz.ntmps145
  go_wp2_with (first | (go_at_call 183; refine (toNumber_int16_string s _).mono ?_; rintro e w' ⟨rfl, rfl⟩) | (go_at_call 146; refine (HP.out _).mono ?_; rintro e w' ⟨rfl, hb⟩) | (go_at_call 79; go_in))
  go_ret2
  exact ⟨rfl, hb⟩

theorem toE_int16_string (s : ByteArray) (hne : s.toList.isEmpty = false) (N : Int)
    (hP : ∀ w, Calls Tryz.prog 146 #[.string s] w fun e w' => e = .returned (.tuple #[.int .i16 N, .nilIface]) ∧ Below w.heap.size w w') (w : World) :
    Calls Tryz.prog 106 #[.iface 9 (.string s)] w fun e w' => e = .returned (.tuple #[.int .i16 N, .nilIface]) ∧ Below w.heap.size w w' := by
  have HP := Lib.hid hP
  clear hP
  go_enter Tryz.func106, Tryz.ntmps106
  go_wp2_with (go_at_call 145; refine (toNumberE_int16_string s hne N HP.out _).mono ?_; rintro e w' ⟨rfl, hb⟩)
  go_ret2
  exact ⟨rfl, hb⟩

theorem to_int16_string (i u : Int) (f : Nat) (l m : Value) (s : ByteArray) (hne : s.toList.isEmpty = false) (N : Int) (h0 : -32768 ≤ N) (h1 : N ≤ 32767)
    (hP : ∀ w, Calls Tryz.prog 146 #[.string s] w fun e w' => e = .returned (.tuple #[.int .i16 N, .nilIface]) ∧ Below w.heap.size w w') (w : World) :
    Calls Tryz.prog 45 #[.agg #[.int .i64 14, .int .i64 i, .int .u64 u, .float .f64 f, .string s, l, m]] w fun e w' => e = .returned (.tuple #[.int .i64 N, .bool true]) ∧ Below w.heap.size w w' := by
  have HP := Lib.hid hP
  clear hP
  go_enter Tryz.func45, Tryz.ntmps45
  go_wp2_with (first | (go_at_call 40; refine (value_14 _ _ _ _ _ _ _).mono ?_; rintro e w1 ⟨rfl, hb1⟩) | (go_at_call 106; refine (toE_int16_string s hne N HP.out _).mono ?_; rintro e w2 ⟨rfl, hb2⟩))
  go_quiet (fail)
  go_wp2
  go_ret2
  exact ⟨rfl, belowOn (belowOn (below_alloc w _) (belowOn hb1 hb2)) (below_drewN _ _)⟩


theorem parseInt_int32 (s : ByteArray) (hs : s.size ≤ 4611686018427387903) (hdot : decide (0 ≤ Lib.indexB s ⟨#[46]⟩) = false) (N : Int) (h0 : -2147483648 ≤ N) (h1 : N ≤ 2147483647)
    (hP : ∀ w, Calls Tryz.prog 155 #[.string s, .int .i64 0, .int .i64 0] w fun e w' => e = .returned (.tuple #[.int .i64 N, .nilIface]) ∧ Below w.heap.size w w') (w : World) :
    Calls Tryz.prog 148 #[.string s] w fun e w' => e = .returned (.tuple #[.int .i32 N, .nilIface]) ∧ Below w.heap.size w w' := by
  have HP := Lib.hid hP
  have HD := Lib.hid hdot
  clear hP hdot
  go_enter Tryz.func148, Tryz.ntmps148
  go_wp2_with (first | (go_at_call 156; refine (trim_no s hs HD.out _).mono ?_; rintro e w' ⟨rfl, rfl⟩) | (go_at_call 155; refine (HP.out _).mono ?_; rintro e w' ⟨rfl, hb⟩))
  go_ret2
  exact ⟨rfl, hb⟩

theorem toNumber_int32_string (s : ByteArray) (w : World) :
    Calls Tryz.prog 184 #[.iface 9 (.string s)] w fun e w' => e = .returned (.tuple #[.int .i32 0, .bool false]) ∧ w = w' := by
  go_enter Tryz.func184, Tryz.ntmps184
  go_wp2
  go_ret2
  exact ⟨rfl, rfl⟩

theorem toNumberE_int32_string (s : ByteArray) (hne : s.toList.isEmpty = false) (N : Int)
    (hP : ∀ w, Calls Tryz.prog 148 #[.string s] w fun e w' => e = .returned (.tuple #[.int .i32 N, .nilIface]) ∧ Below w.heap.size w w') (w : World) :
    Calls Tryz.prog 147 #[.iface 9 (.string s), .func (.func 148) #[] #[]] w fun e w' => e = .returned (.tuple #[.int .i32 N, .nilIface]) ∧ Below w.heap.size w w' := by
  have HP := Lib.hid hP
  clear hP
  go_enter Tryz.func147, Tryz.ntmps147
  go_wp2_with (first | (go_at_call 184; refine (toNumber_int32_string s _).mono ?_; rintro e w' ⟨rfl, rfl⟩) | (go_at_call 148; refine (HP.out _).mono ?_; rintro e w' ⟨rfl, hb⟩) | (go_at_call 79; go_in))
  go_ret2
  exact ⟨rfl, hb⟩

theorem toE_int32_string (s : ByteArray) (hne : s.toList.isEmpty = false) (N : Int)
    (hP : ∀ w, Calls Tryz.prog 148 #[.string s] w fun e w' => e = .returned (.tuple #[.int .i32 N, .nilIface]) ∧ Below w.heap.size w w') (w : World) :
    Calls Tryz.prog 107 #[.iface 9 (.string s)] w fun e w' => e = .returned (.tuple #[.int .i32 N, .nilIface]) ∧ Below w.heap.size w w' := by
  have HP := Lib.hid hP
  clear hP
  go_enter Tryz.func107, Tryz.ntmps107
  go_wp2_with (go_at_call 147; refine (toNumberE_int32_string s hne N HP.out _).mono ?_; rintro e w' ⟨rfl, hb⟩)
  go_ret2
  exact ⟨rfl, hb⟩

theorem to_int32_string (i u : Int) (f : Nat) (l m : Value) (s : ByteArray) (hne : s.toList.isEmpty = false) (N : Int) (h0 : -2147483648 ≤ N) (h1 : N ≤ 2147483647)
    (hP : ∀ w, Calls Tryz.prog 148 #[.string s] w fun e w' => e = .returned (.tuple #[.int .i32 N, .nilIface]) ∧ Below w.heap.size w w') (w : World) :
    Calls Tryz.prog 46 #[.agg #[.int .i64 14, .int .i64 i, .int .u64 u, .float .f64 f, .string s, l, m]] w fun e w' => e = .returned (.tuple #[.int .i64 N, .bool true]) ∧ Below w.heap.size w w' := by
  have HP := Lib.hid hP
  clear hP
  go_enter Tryz.func46, Tryz.ntmps46
  go_wp2_with (first | (go_at_call 40; refine (value_14 _ _ _ _ _ _ _).mono ?_; rintro e w1 ⟨rfl, hb1⟩) | (go_at_call 107; refine (toE_int32_string s hne N HP.out _).mono ?_; rintro e w2 ⟨rfl, hb2⟩))
  go_quiet (fail)
  go_wp2
  go_ret2
  exact ⟨rfl, belowOn (belowOn (below_alloc w _) (belowOn hb1 hb2)) (below_drewN _ _)⟩


theorem parseInt_int64 (s : ByteArray) (hs : s.size ≤ 4611686018427387903) (hdot : decide (0 ≤ Lib.indexB s ⟨#[46]⟩) = false) (N : Int)
    (hP : ∀ w, Calls Tryz.prog 155 #[.string s, .int .i64 0, .int .i64 0] w fun e w' => e = .returned (.tuple #[.int .i64 N, .nilIface]) ∧ Below w.heap.size w w') (w : World) :
    Calls Tryz.prog 150 #[.string s] w fun e w' => e = .returned (.tuple #[.int .i64 N, .nilIface]) ∧ Below w.heap.size w w' := by
  have HP := Lib.hid hP
  have HD := Lib.hid hdot
  clear hP hdot
  go_enter Tryz.func150, Tryz.ntmps150
  go_wp2_with (first | (go_at_call 156; refine (trim_no s hs HD.out _).mono ?_; rintro e w' ⟨rfl, rfl⟩) | (go_at_call 155; refine (HP.out _).mono ?_; rintro e w' ⟨rfl, hb⟩))
  go_ret2
  exact ⟨rfl, hb⟩

theorem toNumber_int64_string (s : ByteArray) (w : World) :
    Calls Tryz.prog 185 #[.iface 9 (.string s)] w fun e w' => e = .returned (.tuple #[.int .i64 0, .bool false]) ∧ w = w' := by
  go_enter Tryz.func185, Tryz.ntmps185
  go_wp2
  go_ret2
  exact ⟨rfl, rfl⟩

theorem toNumberE_int64_string (s : ByteArray) (hne : s.toList.isEmpty = false) (N : Int)
    (hP : ∀ w, Calls Tryz.prog 150 #[.string s] w fun e w' => e = .returned (.tuple #[.int .i64 N, .nilIface]) ∧ Below w.heap.size w w') (w : World) :
    Calls Tryz.prog 149 #[.iface 9 (.string s), .func (.func 150) #[] #[]] w fun e w' => e = .returned (.tuple #[.int .i64 N, .nilIface]) ∧ Below w.heap.size w w' := by
  have HP := Lib.hid hP
  clear hP
  go_enter Tryz.func149, Tryz.ntmps149
  go_wp2_with (first | (go_at_call 185; refine (toNumber_int64_string s _).mono ?_; rintro e w' ⟨rfl, rfl⟩) | (go_at_call 150; refine (HP.out _).mono ?_; rintro e w' ⟨rfl, hb⟩) | (go_at_call 79; go_in))
  go_ret2
  exact ⟨rfl, hb⟩

theorem toE_int64_string (s : ByteArray) (hne : s.toList.isEmpty = false) (N : Int)
    (hP : ∀ w, Calls Tryz.prog 150 #[.string s] w fun e w' => e = .returned (.tuple #[.int .i64 N, .nilIface]) ∧ Below w.heap.size w w') (w : World) :
    Calls Tryz.prog 108 #[.iface 9 (.string s)] w fun e w' => e = .returned (.tuple #[.int .i64 N, .nilIface]) ∧ Below w.heap.size w w' := by
  have HP := Lib.hid hP
  clear hP
  go_enter Tryz.func108, Tryz.ntmps108
  go_wp2_with (go_at_call 149; refine (toNumberE_int64_string s hne N HP.out _).mono ?_; rintro e w' ⟨rfl, hb⟩)
  go_ret2
  exact ⟨rfl, hb⟩

theorem to_int64_string (i u : Int) (f : Nat) (l m : Value) (s : ByteArray) (hne : s.toList.isEmpty = false) (N : Int) (h0 : -9223372036854775808 ≤ N) (h1 : N ≤ 9223372036854775807)
    (hP : ∀ w, Calls Tryz.prog 150 #[.string s] w fun e w' => e = .returned (.tuple #[.int .i64 N, .nilIface]) ∧ Below w.heap.size w w') (w : World) :
    Calls Tryz.prog 47 #[.agg #[.int .i64 14, .int .i64 i, .int .u64 u, .float .f64 f, .string s, l, m]] w fun e w' => e = .returned (.tuple #[.int .i64 N, .bool true]) ∧ Below w.heap.size w w' := by
  have HP := Lib.hid hP
  clear hP
  go_enter Tryz.func47, Tryz.ntmps47
  go_wp2_with (first | (go_at_call 40; refine (value_14 _ _ _ _ _ _ _).mono ?_; rintro e w1 ⟨rfl, hb1⟩) | (go_at_call 108; refine (toE_int64_string s hne N HP.out _).mono ?_; rintro e w2 ⟨rfl, hb2⟩))
  go_quiet (fail)
  go_wp2
  go_ret2
  exact ⟨rfl, belowOn (belowOn (below_alloc w _) (belowOn hb1 hb2)) (below_drewN _ _)⟩

end Go.Proofs.YtnggkkdcddpjlaaGreatDoor