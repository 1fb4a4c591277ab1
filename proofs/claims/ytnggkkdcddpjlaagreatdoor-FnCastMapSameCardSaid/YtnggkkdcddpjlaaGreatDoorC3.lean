/- Ints as decimal texts: cast's ToStringE and impl.ToString at ints, spec.CastDecimal, the kinds; what FnCastIntText calls. -/
import Derived.Test.YtnggkkdcddpjlaaGreatDoorC2
import Derived.Test.YtnggkkdcddpjlaaGreatDoorT8
namespace Go.Proofs.YtnggkkdcddpjlaaGreatDoor
open Go.RowKit
set_option maxRecDepth 100000
set_option linter.unusedVariables false


theorem strE_int (n : Int) (h0 : -9223372036854775808 ≤ n) (h1 : n ≤ 9223372036854775807) (w : World) (hg : Good w) :
    Calls Tryz.prog 43 #[.iface 3 (.int .i64 n)] w fun e w' => e = .returned (.tuple #[.string ⟨(Lib.itoa n).toArray⟩, .nilIface]) ∧ Below w.heap.size w w' := by
  go_enter Tryz.func43, Tryz.ntmps43
  go_wp2_with (go_at_call 102; refine (Tryz.strconv_Itoa _ h0 h1 _ hg.tab).mono ?_; rintro e w' ⟨rfl, k, os, rfl⟩)
  go_ret2
  exact ⟨rfl, below_grow _ _ _⟩


theorem toString_int (n u : Int) (f : Nat) (s : ByteArray) (l m : Value) (h0 : -9223372036854775808 ≤ n) (h1 : n ≤ 9223372036854775807) (w : World) (hg : Good w) :
    Calls Tryz.prog 16 #[.agg #[.int .i64 2, .int .i64 n, .int .u64 u, .float .f64 f, .string s, l, m]] w fun e w' => e = .returned (.tuple #[.string ⟨(Lib.itoa n).toArray⟩, .bool true]) ∧ Below w.heap.size w w' := by
  have hv := fun w => value_2 n u f s l m w
  have HV := Lib.hid hv
  clear hv
  go_enter Tryz.func16, Tryz.ntmps16
  go_wp2_with (first | (go_at_call 40; refine (HV.out _).mono ?_; rintro e w1 ⟨rfl, hb1⟩; have hg1 := (hg.on (below_alloc w _)).on hb1) | (go_at_call 43; refine (strE_int n h0 h1 _ hg1).mono ?_; rintro e w2 ⟨rfl, hb2⟩))
  go_quiet (fail)
  go_wp2
  go_ret2
  exact ⟨rfl, belowOn (belowOn (below_alloc w _) (belowOn hb1 hb2)) (below_drewN _ _)⟩


theorem strE_int8 (n : Int) (h0 : -128 ≤ n) (h1 : n ≤ 127) (w : World) (hg : Good w) :
    Calls Tryz.prog 43 #[.iface 81 (.int .i8 n)] w fun e w' => e = .returned (.tuple #[.string ⟨(Lib.itoa n).toArray⟩, .nilIface]) ∧ Below w.heap.size w w' := by
  go_enter Tryz.func43, Tryz.ntmps43
  go_wp2_with (go_at_call 103; refine (Tryz.strconv_FormatInt_10 _ (by omega) (by omega) _ hg.tab).mono ?_; rintro e w' ⟨rfl, k, os, rfl⟩)
  go_ret2
  exact ⟨rfl, below_grow _ _ _⟩


theorem toString_int8 (n u : Int) (f : Nat) (s : ByteArray) (l m : Value) (h0 : -128 ≤ n) (h1 : n ≤ 127) (w : World) (hg : Good w) :
    Calls Tryz.prog 16 #[.agg #[.int .i64 3, .int .i64 n, .int .u64 u, .float .f64 f, .string s, l, m]] w fun e w' => e = .returned (.tuple #[.string ⟨(Lib.itoa n).toArray⟩, .bool true]) ∧ Below w.heap.size w w' := by
  have hv := fun w => value_3 n u f s l m w
  rw [show IntKind.i8.wrap n = n from IntWalk.i8_in n (by omega)] at hv
  have HV := Lib.hid hv
  clear hv
  go_enter Tryz.func16, Tryz.ntmps16
  go_wp2_with (first | (go_at_call 40; refine (HV.out _).mono ?_; rintro e w1 ⟨rfl, hb1⟩; have hg1 := (hg.on (below_alloc w _)).on hb1) | (go_at_call 43; refine (strE_int8 n h0 h1 _ hg1).mono ?_; rintro e w2 ⟨rfl, hb2⟩))
  go_quiet (fail)
  go_wp2
  go_ret2
  exact ⟨rfl, belowOn (belowOn (below_alloc w _) (belowOn hb1 hb2)) (below_drewN _ _)⟩


theorem strE_int16 (n : Int) (h0 : -32768 ≤ n) (h1 : n ≤ 32767) (w : World) (hg : Good w) :
    Calls Tryz.prog 43 #[.iface 82 (.int .i16 n)] w fun e w' => e = .returned (.tuple #[.string ⟨(Lib.itoa n).toArray⟩, .nilIface]) ∧ Below w.heap.size w w' := by
  go_enter Tryz.func43, Tryz.ntmps43
  go_wp2_with (go_at_call 103; refine (Tryz.strconv_FormatInt_10 _ (by omega) (by omega) _ hg.tab).mono ?_; rintro e w' ⟨rfl, k, os, rfl⟩)
  go_ret2
  exact ⟨rfl, below_grow _ _ _⟩


theorem toString_int16 (n u : Int) (f : Nat) (s : ByteArray) (l m : Value) (h0 : -32768 ≤ n) (h1 : n ≤ 32767) (w : World) (hg : Good w) :
    Calls Tryz.prog 16 #[.agg #[.int .i64 4, .int .i64 n, .int .u64 u, .float .f64 f, .string s, l, m]] w fun e w' => e = .returned (.tuple #[.string ⟨(Lib.itoa n).toArray⟩, .bool true]) ∧ Below w.heap.size w w' := by
  have hv := fun w => value_4 n u f s l m w
  rw [show IntKind.i16.wrap n = n from IntWalk.i16_in n (by omega)] at hv
  have HV := Lib.hid hv
  clear hv
  go_enter Tryz.func16, Tryz.ntmps16
  go_wp2_with (first | (go_at_call 40; refine (HV.out _).mono ?_; rintro e w1 ⟨rfl, hb1⟩; have hg1 := (hg.on (below_alloc w _)).on hb1) | (go_at_call 43; refine (strE_int16 n h0 h1 _ hg1).mono ?_; rintro e w2 ⟨rfl, hb2⟩))
  go_quiet (fail)
  go_wp2
  go_ret2
  exact ⟨rfl, belowOn (belowOn (below_alloc w _) (belowOn hb1 hb2)) (below_drewN _ _)⟩


theorem strE_int32 (n : Int) (h0 : -2147483648 ≤ n) (h1 : n ≤ 2147483647) (w : World) (hg : Good w) :
    Calls Tryz.prog 43 #[.iface 21 (.int .i32 n)] w fun e w' => e = .returned (.tuple #[.string ⟨(Lib.itoa n).toArray⟩, .nilIface]) ∧ Below w.heap.size w w' := by
  go_enter Tryz.func43, Tryz.ntmps43
  go_wp2_with (go_at_call 103; refine (Tryz.strconv_FormatInt_10 _ (by omega) (by omega) _ hg.tab).mono ?_; rintro e w' ⟨rfl, k, os, rfl⟩)
  go_ret2
  exact ⟨rfl, below_grow _ _ _⟩


theorem toString_int32 (n u : Int) (f : Nat) (s : ByteArray) (l m : Value) (h0 : -2147483648 ≤ n) (h1 : n ≤ 2147483647) (w : World) (hg : Good w) :
    Calls Tryz.prog 16 #[.agg #[.int .i64 5, .int .i64 n, .int .u64 u, .float .f64 f, .string s, l, m]] w fun e w' => e = .returned (.tuple #[.string ⟨(Lib.itoa n).toArray⟩, .bool true]) ∧ Below w.heap.size w w' := by
  have hv := fun w => value_5 n u f s l m w
  rw [show wrap32 n = n from by unfold wrap32; omega] at hv
  have HV := Lib.hid hv
  clear hv
  go_enter Tryz.func16, Tryz.ntmps16
  go_wp2_with (first | (go_at_call 40; refine (HV.out _).mono ?_; rintro e w1 ⟨rfl, hb1⟩; have hg1 := (hg.on (below_alloc w _)).on hb1) | (go_at_call 43; refine (strE_int32 n h0 h1 _ hg1).mono ?_; rintro e w2 ⟨rfl, hb2⟩))
  go_quiet (fail)
  go_wp2
  go_ret2
  exact ⟨rfl, belowOn (belowOn (below_alloc w _) (belowOn hb1 hb2)) (below_drewN _ _)⟩


theorem strE_int64 (n : Int) (h0 : -9223372036854775808 ≤ n) (h1 : n ≤ 9223372036854775807) (w : World) (hg : Good w) :
    Calls Tryz.prog 43 #[.iface 2 (.int .i64 n)] w fun e w' => e = .returned (.tuple #[.string ⟨(Lib.itoa n).toArray⟩, .nilIface]) ∧ Below w.heap.size w w' := by
  go_enter Tryz.func43, Tryz.ntmps43
  go_wp2_with (go_at_call 103; refine (Tryz.strconv_FormatInt_10 _ (by omega) (by omega) _ hg.tab).mono ?_; rintro e w' ⟨rfl, k, os, rfl⟩)
  go_ret2
  exact ⟨rfl, below_grow _ _ _⟩


theorem toString_int64 (n u : Int) (f : Nat) (s : ByteArray) (l m : Value) (h0 : -9223372036854775808 ≤ n) (h1 : n ≤ 9223372036854775807) (w : World) (hg : Good w) :
    Calls Tryz.prog 16 #[.agg #[.int .i64 6, .int .i64 n, .int .u64 u, .float .f64 f, .string s, l, m]] w fun e w' => e = .returned (.tuple #[.string ⟨(Lib.itoa n).toArray⟩, .bool true]) ∧ Below w.heap.size w w' := by
  have hv := fun w => value_6 n u f s l m w
  have HV := Lib.hid hv
  clear hv
  go_enter Tryz.func16, Tryz.ntmps16
  go_wp2_with (first | (go_at_call 40; refine (HV.out _).mono ?_; rintro e w1 ⟨rfl, hb1⟩; have hg1 := (hg.on (below_alloc w _)).on hb1) | (go_at_call 43; refine (strE_int64 n h0 h1 _ hg1).mono ?_; rintro e w2 ⟨rfl, hb2⟩))
  go_quiet (fail)
  go_wp2
  go_ret2
  exact ⟨rfl, belowOn (belowOn (below_alloc w _) (belowOn hb1 hb2)) (below_drewN _ _)⟩


theorem kindInt_any (k : Int) (w : World) :
    Calls Tryz.prog 14 #[.int .i64 k] w fun e w' => e = .returned (.int .i64 (2 + (IntKind.u64.wrap k) % 5)) ∧ w = w' := by
  have h0 : 0 ≤ IntKind.u64.wrap k := by rw [IntKind.wrap_u64]; omega
  have h1 : IntKind.u64.wrap k ≤ 18446744073709551615 := by rw [IntKind.wrap_u64]; omega
  go_enter Tryz.func14, Tryz.ntmps14
  go_wp2
  go_ret
  exact ⟨rfl, rfl⟩


theorem cutInt_2 (n : Int) (h0 : -9223372036854775808 ≤ n) (h1 : n ≤ 9223372036854775807) (w : World) :
    Calls Tryz.prog 15 #[.int .i64 2, .int .i64 n] w fun e w' => e = .returned (.int .i64 (n)) ∧ w = w' := by
  go_enter Tryz.func15, Tryz.ntmps15
  go_wp2
  go_ret
  exact ⟨rfl, rfl⟩


theorem cutInt_3 (n : Int) (h0 : -9223372036854775808 ≤ n) (h1 : n ≤ 9223372036854775807) (w : World) :
    Calls Tryz.prog 15 #[.int .i64 3, .int .i64 n] w fun e w' => e = .returned (.int .i64 (wrap64 (IntKind.i8.wrap n))) ∧ w = w' := by
  go_enter Tryz.func15, Tryz.ntmps15
  go_wp2
  go_ret
  exact ⟨rfl, rfl⟩


theorem cutInt_4 (n : Int) (h0 : -9223372036854775808 ≤ n) (h1 : n ≤ 9223372036854775807) (w : World) :
    Calls Tryz.prog 15 #[.int .i64 4, .int .i64 n] w fun e w' => e = .returned (.int .i64 (wrap64 (IntKind.i16.wrap n))) ∧ w = w' := by
  go_enter Tryz.func15, Tryz.ntmps15
  go_wp2
  go_ret
  exact ⟨rfl, rfl⟩


theorem cutInt_5 (n : Int) (h0 : -9223372036854775808 ≤ n) (h1 : n ≤ 9223372036854775807) (w : World) :
    Calls Tryz.prog 15 #[.int .i64 5, .int .i64 n] w fun e w' => e = .returned (.int .i64 (wrap64 (wrap32 n))) ∧ w = w' := by
  go_enter Tryz.func15, Tryz.ntmps15
  go_wp2
  go_ret
  exact ⟨rfl, rfl⟩


theorem cutInt_6 (n : Int) (h0 : -9223372036854775808 ≤ n) (h1 : n ≤ 9223372036854775807) (w : World) :
    Calls Tryz.prog 15 #[.int .i64 6, .int .i64 n] w fun e w' => e = .returned (.int .i64 (n)) ∧ w = w' := by
  go_enter Tryz.func15, Tryz.ntmps15
  go_wp2
  go_ret
  exact ⟨rfl, rfl⟩


theorem decimal_pos (n : Int) (h0 : 0 ≤ n) (h1 : n ≤ 9223372036854775807) (w : World) :
    Calls Tryz.prog 18 #[.int .i64 n] w fun e w' => e = .returned (.string ⟨(Lib.decDigits n.toNat).toArray⟩) ∧ Below w.heap.size w w' := by
  go_enter Tryz.func18, Tryz.ntmps18
  go_wp2_with (go_at_call 48; refine (decU _ h0 (by omega) _).mono ?_; rintro e w1 ⟨rfl, hb1⟩)
  go_ret
  exact ⟨rfl, hb1⟩

theorem decimal_neg (n : Int) (h0 : -9223372036854775808 ≤ n) (h1 : n < 0) (w : World) :
    Calls Tryz.prog 18 #[.int .i64 n] w fun e w' => e = .returned (.string ⟨(45 :: Lib.decDigits n.natAbs).toArray⟩) ∧ Below w.heap.size w w' := by
  have he : IntKind.u64.wrap (-IntKind.u64.wrap n) = -n := by rw [IntKind.wrap_u64, IntKind.wrap_u64]; omega
  have hU := fun w => decU (-n) (by omega) (by omega) w
  have hl : (⟨(Lib.decDigits (-n).toNat).toArray⟩ : ByteArray).size ≤ 20 := dec_len (by omega)
  have hx : (⟨#[45]⟩ ++ ⟨(Lib.decDigits (-n).toNat).toArray⟩ : ByteArray) = ⟨(45 :: Lib.decDigits n.natAbs).toArray⟩ := by
    apply ByteArray.ext
    simp [show (-n).toNat = n.natAbs by omega]
  obtain ⟨d, hd⟩ : ∃ d : ByteArray, d = ⟨(Lib.decDigits (-n).toNat).toArray⟩ := ⟨_, rfl⟩
  rw [← hd] at hl hx
  rw [← hx]
  have HU : Hid (∀ w, Calls Tryz.prog 48 #[.int .u64 (-n)] w fun e w' => e = .returned (.string d) ∧ Below w.heap.size w w') := by rw [hd]; exact hU
  clear hU hd hx
  go_enter Tryz.func18, Tryz.ntmps18
  go_wp2_with (go_at_call 48; refine (HU.out _).mono ?_; rintro e w1 ⟨rfl, hb1⟩)
  go_ret
  exact ⟨rfl, hb1⟩

end Go.Proofs.YtnggkkdcddpjlaaGreatDoor