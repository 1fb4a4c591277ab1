/- cast.ToStringE, cast.ToString, impl.text, impl.CastString at plain values: total, and the text hangs on the value alone. -/
import Derived.Test.YtnggkkdcddpjlaaGreatDoorE0
import Derived.Test.YtnggkkdcddpjlaaGreatDoorE1
import Derived.Test.YtnggkkdcddpjlaaGreatDoorFL
import Derived.Test.YtnggkkdcddpjlaaGreatDoorC3
namespace Go.Proofs.YtnggkkdcddpjlaaGreatDoor
open Go.RowKit
set_option maxRecDepth 100000
set_option linter.unusedVariables false
/-- What the walks hold of the world: the variables, the table of powers. -/
structure Good2 (w : World) : Prop where
  g : Good w
  p : PowAt w
theorem Good2.on {w w' : World} (h : Good2 w) (hb : Below w.heap.size w w') : Good2 w' := ⟨h.g.on hb, h.p.keep hb (by have := h.g.big; omega)⟩
theorem i8_rng (n : Int) : -128 ≤ IntKind.i8.wrap n ∧ IntKind.i8.wrap n ≤ 127 := by
  simp [IntKind.wrap, IntKind.bits, IntKind.signed]
  split <;> omega
theorem i16_rng (n : Int) : -32768 ≤ IntKind.i16.wrap n ∧ IntKind.i16.wrap n ≤ 32767 := by
  simp [IntKind.wrap, IntKind.bits, IntKind.signed]
  split <;> omega
/-- The ranges of an entry's numbers. -/
structure Ent.Nice (e : Ent) : Prop where
  i0 : -9223372036854775808 ≤ e.i
  i1 : e.i ≤ 9223372036854775807
  u0 : 0 ≤ e.u
  u1 : e.u < 18446744073709551616
  flt : ∃ g h g', Flt e.f g h g'
/-- A text that ToStringE is to give of a box. -/
def StrE (box : Value) (t : ByteArray) : Prop := ∀ w, Good2 w → Calls Tryz.prog 43 #[box] w fun r w' => r = .returned (.tuple #[.string t, .nilIface]) ∧ Below w.heap.size w w'
theorem sE_0 : StrE .nilIface ⟨#[]⟩ := fun w hg => by
  clear hg
  go_enter Tryz.func43, Tryz.ntmps43
  go_wp2
  go_ret2
  exact ⟨rfl, Below.refl _ _⟩
theorem sE_1 (b : Bool) : StrE (.iface 4 (.bool b)) ⟨(Lib.formatBool b).toArray⟩ := fun w hg => by
  clear hg
  have H := Lib.hid (fun w => Tryz.strconv_FormatBool b w)
  generalize (⟨(Lib.formatBool b).toArray⟩ : ByteArray) = t at H ⊢
  go_enter Tryz.func43, Tryz.ntmps43
  go_wp2_with (go_at_call 100; refine (H.out _).mono ?_; rintro e w' ⟨rfl, rfl⟩)
  go_ret2
  exact ⟨rfl, Below.refl _ _⟩
theorem sE_14 (s : ByteArray) : StrE (.iface 9 (.string s)) s := fun w hg => by
  clear hg
  go_enter Tryz.func43, Tryz.ntmps43
  go_wp2
  go_ret2
  exact ⟨rfl, Below.refl _ _⟩
theorem sE_13 (f : Nat) (t : ByteArray) (ht : ∀ w, PowAt w → Good w → Calls Tryz.prog 101 #[.float .f64 f, .int .u8 102, .int .i64 (-1), .int .i64 64] w fun e w' => e = .returned (.string t) ∧ Below w.heap.size w w') : StrE (.iface 25 (.float .f64 f)) t := fun w hg => by
  have H := Lib.hid (ht w hg.p hg.g)
  clear hg ht
  go_enter Tryz.func43, Tryz.ntmps43
  go_wp2_with (go_at_call 101; refine H.out.mono ?_; rintro e w' ⟨rfl, hb⟩)
  go_ret2
  exact ⟨rfl, hb⟩
theorem sE_12 (g h : Nat) (hc : floatToFloatBits .f32 g .f64 = some h) (t : ByteArray) (ht : ∀ w, PowAt w → Good w → Calls Tryz.prog 101 #[.float .f64 h, .int .u8 102, .int .i64 (-1), .int .i64 32] w fun e w' => e = .returned (.string t) ∧ Below w.heap.size w w') : StrE (.iface 66 (.float .f32 g)) t := fun w hg => by
  have H := Lib.hid (ht w hg.p hg.g)
  have hcf := fun w => run_convert_float_float (P := Tryz.prog) w 66 25 .f32 .f64 g h (by rw [Tryz.underlying66]; rfl) Tryz.underlying25 hc
  clear hg ht hc
  go_enter Tryz.func43, Tryz.ntmps43
  go_wp2_with (go_at_call 101; refine H.out.mono ?_; rintro e w' ⟨rfl, hb⟩)
  go_ret2
  exact ⟨rfl, hb⟩
theorem sE_7 (u : Int) (h0 : 0 ≤ u) (h1 : u < 18446744073709551616) : StrE (.iface 80 (.int .u64 u)) ⟨(Lib.decDigits u.toNat).toArray⟩ := fun w hg => by
  have H := Lib.hid (fmtu u h0 (by omega) w hg.g)
  obtain ⟨L, hL⟩ : ∃ L : ByteArray, L = ⟨(Lib.decDigits u.toNat).toArray⟩ := ⟨_, rfl⟩
  rw [← hL] at H ⊢
  clear hL hg
  go_enter Tryz.func43, Tryz.ntmps43
  go_wp2_with (go_at_call 104; refine H.out.mono ?_; rintro e w' ⟨rfl, hb⟩)
  go_ret2
  exact ⟨rfl, hb⟩
theorem sE_8 (u : Int) (h0 : 0 ≤ u) (h1 : u < 256) : StrE (.iface 5 (.int .u8 u)) ⟨(Lib.decDigits u.toNat).toArray⟩ := fun w hg => by
  have H := Lib.hid (fmtu u h0 (by omega) w hg.g)
  obtain ⟨L, hL⟩ : ∃ L : ByteArray, L = ⟨(Lib.decDigits u.toNat).toArray⟩ := ⟨_, rfl⟩
  rw [← hL] at H ⊢
  clear hL hg
  go_enter Tryz.func43, Tryz.ntmps43
  go_wp2_with (go_at_call 104; refine H.out.mono ?_; rintro e w' ⟨rfl, hb⟩)
  go_ret2
  exact ⟨rfl, hb⟩
theorem sE_9 (u : Int) (h0 : 0 ≤ u) (h1 : u < 65536) : StrE (.iface 126 (.int .u16 u)) ⟨(Lib.decDigits u.toNat).toArray⟩ := fun w hg => by
  have H := Lib.hid (fmtu u h0 (by omega) w hg.g)
  obtain ⟨L, hL⟩ : ∃ L : ByteArray, L = ⟨(Lib.decDigits u.toNat).toArray⟩ := ⟨_, rfl⟩
  rw [← hL] at H ⊢
  clear hL hg
  go_enter Tryz.func43, Tryz.ntmps43
  go_wp2_with (go_at_call 104; refine H.out.mono ?_; rintro e w' ⟨rfl, hb⟩)
  go_ret2
  exact ⟨rfl, hb⟩
theorem sE_10 (u : Int) (h0 : 0 ≤ u) (h1 : u < 4294967296) : StrE (.iface 127 (.int .u32 u)) ⟨(Lib.decDigits u.toNat).toArray⟩ := fun w hg => by
  have H := Lib.hid (fmtu u h0 (by omega) w hg.g)
  obtain ⟨L, hL⟩ : ∃ L : ByteArray, L = ⟨(Lib.decDigits u.toNat).toArray⟩ := ⟨_, rfl⟩
  rw [← hL] at H ⊢
  clear hL hg
  go_enter Tryz.func43, Tryz.ntmps43
  go_wp2_with (go_at_call 104; refine H.out.mono ?_; rintro e w' ⟨rfl, hb⟩)
  go_ret2
  exact ⟨rfl, hb⟩
theorem sE_11 (u : Int) (h0 : 0 ≤ u) (h1 : u < 18446744073709551616) : StrE (.iface 24 (.int .u64 u)) ⟨(Lib.decDigits u.toNat).toArray⟩ := fun w hg => by
  have H := Lib.hid (fmtu u h0 (by omega) w hg.g)
  obtain ⟨L, hL⟩ : ∃ L : ByteArray, L = ⟨(Lib.decDigits u.toNat).toArray⟩ := ⟨_, rfl⟩
  rw [← hL] at H ⊢
  clear hL hg
  go_enter Tryz.func43, Tryz.ntmps43
  go_wp2_with (go_at_call 104; refine H.out.mono ?_; rintro e w' ⟨rfl, hb⟩)
  go_ret2
  exact ⟨rfl, hb⟩
theorem box_str (e : Ent) (h : e.Fine) (hn : e.Nice) : ∃ t, StrE e.box t := by
  have hc := h.cases
  have hg0 := h.g
  obtain ⟨i0, i1, u0, u1, g, hh, g', hF⟩ := hn
  obtain ⟨key, k, i, u, f, s⟩ := e
  dsimp only at hc hg0 i0 i1 u0 u1 hF
  have hgg : (Ent.mk key k i u f s).g = g := by
    rw [hF.n1] at hg0
    exact (Option.some.inj hg0).symm
  unfold Ent.box
  dsimp only
  rcases hc with rfl | rfl | rfl | rfl | rfl | rfl | rfl | rfl | rfl | rfl | rfl | rfl | rfl | rfl | rfl
  · exact ⟨_, sE_0⟩
  · exact ⟨_, sE_1 _⟩
  · exact ⟨_, fun w hg => strE_int i i0 i1 w hg.g⟩
  · exact ⟨_, fun w hg => strE_int8 (IntKind.i8.wrap i) (i8_rng i).1 (i8_rng i).2 w hg.g⟩
  · exact ⟨_, fun w hg => strE_int16 (IntKind.i16.wrap i) (i16_rng i).1 (i16_rng i).2 w hg.g⟩
  · exact ⟨_, fun w hg => strE_int32 (wrap32 i) (by unfold wrap32; omega) (by unfold wrap32; omega) w hg.g⟩
  · exact ⟨_, fun w hg => strE_int64 i i0 i1 w hg.g⟩
  · exact ⟨_, sE_7 u u0 u1⟩
  · exact ⟨_, sE_8 (IntKind.u8.wrap u) (by rw [IntKind.wrap_u8]; omega) (by rw [IntKind.wrap_u8]; omega)⟩
  · exact ⟨_, sE_9 (IntKind.u16.wrap u) (by rw [IntKind.wrap_u16]; omega) (by rw [IntKind.wrap_u16]; omega)⟩
  · exact ⟨_, sE_10 (IntKind.u32.wrap u) (by rw [IntKind.wrap_u32]; omega) (by rw [IntKind.wrap_u32]; omega)⟩
  · exact ⟨_, sE_11 u u0 u1⟩
  · obtain ⟨t, _, ht⟩ := fmt32 hh g' hF.n2 hF.g0 hF.g1
    refine ⟨t, ?_⟩
    show StrE (.iface 66 (.float .f32 (Ent.mk key 12 i u f s).g)) t
    rw [hgg]
    exact sE_12 g hh hF.w1 t ht
  · obtain ⟨t, _, ht⟩ := fmt64 f hF.f0 hF.f1
    exact ⟨t, sE_13 f t ht⟩
  · exact ⟨_, sE_14 s⟩
end Go.Proofs.YtnggkkdcddpjlaaGreatDoor
