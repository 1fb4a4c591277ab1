/- internal/strconv.ftoa64, ftoa32 at the form 'g' at a nan and at an infinity. strconv.FormatFloat at the form 'g', shortest: the text hangs on the float alone. internal/strconv.special at a decimal text, at NaN, +Inf and -Inf. The round trip at 64 bits: what FormatFloat prints of a float at 'g' is read as that float. -/
import Derived.Test.YtnggkkdcddpjlaaGreatDoorZ39
import Derived.Lib.AppendStr
import Derived.Test.YtnggkkdcddpjlaaGreatDoorZ30
import Derived.Test.YtnggkkdcddpjlaaGreatDoorZ37
namespace Go.Proofs.YtnggkkdcddpjlaaGreatDoor
open Go.RowKit
set_option maxRecDepth 100000
set_option linter.unusedVariables false
theorem info5q : (Tryz.prog.info? 5).map (fun i => (i.size, i.bytes, i.zero)) = some (1, 1, some (.int .u8 0)) := by kernel_rfl
theorem info5z : ∃ i0, Tryz.prog.info? 5 = some i0 ∧ i0.zero = some (.int .u8 0) ∧ i0.size = 1 ∧ i0.bytes = 1 := by
  have h := info5q
  cases hh : Tryz.prog.info? 5 with
  | none => rw [hh] at h; cases h
  | some i =>
    rw [hh] at h
    simp only [Option.map_some, Option.some.injEq, Prod.mk.injEq] at h
    obtain ⟨h1, h2, h3⟩ := h
    exact ⟨i, rfl, h3, h1, h2⟩
set_option maxHeartbeats 1000000 in
theorem ftoaG64_nan (f : Nat) (F fr : Int) (hF : (f : Int) = F) (hF0 : 0 ≤ F) (hF1 : F < 18446744073709551616)
    (hE : bits .and .i64 (F / 4503599627370496) 2047 = 2047) (hfr : bits .and .u64 F 4503599627370495 = fr) (hz : (fr == 0) = false) :
    FtoaG 177 (.float .f64 f) [78, 97, 78] := by
  intro v w0 w hp hg hown hbel
  have hb : ∀ w : World, (callFunc 197 #[.float .f64 f]).run Tryz.prog w = .ok (.value (.int .u64 F)) w := fun w => by rw [bits64, hF]
  obtain ⟨i0, hi0, hz0, hs0, hb0⟩ := info5z
  have hz2 : (fr != 0) = true := by simpa using hz
  obtain ⟨S, hS⟩ : ∃ S : ByteArray, S = ⟨#[78, 97, 78]⟩ := ⟨_, rfl⟩
  have hSl : S.size = 3 := by rw [hS]; rfl
  have hSc : Lib.strCells S = ([78, 97, 78] : List UInt8).map vb := by rw [hS]; rfl
  have HW := Lib.hid (And.intro hown hbel)
  have HS := Lib.hid (And.intro hS (And.intro hSl hSc))
  clear hF hp hg hown hbel hS hSl hSc
  go_enter Tryz.func177, Tryz.ntmps177
  go_wp2_with fail
  go_quiet (fail)
  go_wp2_with (at_builtin; refine Lib.wpList_append_own_string _ rfl _ _ 130 9 rfl w0.heap.size 5 i0 Tryz.underlying130 Tryz.underlying9 hi0 hz0 hs0 hb0 v 0 [] rfl (owns_on HW.out.1 (below_drewN w _)) S (by rw [HS.out.1]; rfl) (by rw [HS.out.2.1]; decide) (by rw [HS.out.2.1]; decide) (HW.out.2.trans ((below_drewN w _).mono HW.out.2.size)).size ?_; intro v' w' h2 h3 _; have H2 := Lib.hid h2; have H3 := Lib.hid h3; clear h2 h3)
  go_ret
  refine ⟨v', rfl, ?_, ?_⟩
  · have h := H2.out
    rw [HS.out.2.1, HS.out.2.2] at h
    exact h
  · exact (HW.out.2.trans ((below_drewN w _).mono HW.out.2.size)).grown H3.out (HW.out.2.trans ((below_drewN w _).mono HW.out.2.size)).size (fun k hk => (HW.out.1.lt k hk).1)
set_option maxHeartbeats 1000000 in
theorem ftoaG64_pinf (f : Nat) (F fr : Int) (hF : (f : Int) = F) (hF0 : 0 ≤ F) (hF1 : F < 18446744073709551616)
    (hE : bits .and .i64 (F / 4503599627370496) 2047 = 2047) (hfr : bits .and .u64 F 4503599627370495 = fr) (hz : fr = 0) (hneg : (F / 9223372036854775808 != 0) = false) :
    FtoaG 177 (.float .f64 f) [43, 73, 110, 102] := by
  intro v w0 w hp hg hown hbel
  have hb : ∀ w : World, (callFunc 197 #[.float .f64 f]).run Tryz.prog w = .ok (.value (.int .u64 F)) w := fun w => by rw [bits64, hF]
  obtain ⟨i0, hi0, hz0, hs0, hb0⟩ := info5z
  subst hz
  obtain ⟨S, hS⟩ : ∃ S : ByteArray, S = ⟨#[43, 73, 110, 102]⟩ := ⟨_, rfl⟩
  have hSl : S.size = 4 := by rw [hS]; rfl
  have hSc : Lib.strCells S = ([43, 73, 110, 102] : List UInt8).map vb := by rw [hS]; rfl
  have HW := Lib.hid (And.intro hown hbel)
  have HS := Lib.hid (And.intro hS (And.intro hSl hSc))
  clear hF hp hg hown hbel hS hSl hSc
  go_enter Tryz.func177, Tryz.ntmps177
  go_wp2_with fail
  go_quiet (fail)
  go_wp2_with (at_builtin; refine Lib.wpList_append_own_string _ rfl _ _ 130 9 rfl w0.heap.size 5 i0 Tryz.underlying130 Tryz.underlying9 hi0 hz0 hs0 hb0 v 0 [] rfl (owns_on HW.out.1 (below_drewN w _)) S (by rw [HS.out.1]; rfl) (by rw [HS.out.2.1]; decide) (by rw [HS.out.2.1]; decide) (HW.out.2.trans ((below_drewN w _).mono HW.out.2.size)).size ?_; intro v' w' h2 h3 _; have H2 := Lib.hid h2; have H3 := Lib.hid h3; clear h2 h3)
  go_ret
  refine ⟨v', rfl, ?_, ?_⟩
  · have h := H2.out
    rw [HS.out.2.1, HS.out.2.2] at h
    exact h
  · exact (HW.out.2.trans ((below_drewN w _).mono HW.out.2.size)).grown H3.out (HW.out.2.trans ((below_drewN w _).mono HW.out.2.size)).size (fun k hk => (HW.out.1.lt k hk).1)
set_option maxHeartbeats 1000000 in
theorem ftoaG64_ninf (f : Nat) (F fr : Int) (hF : (f : Int) = F) (hF0 : 0 ≤ F) (hF1 : F < 18446744073709551616)
    (hE : bits .and .i64 (F / 4503599627370496) 2047 = 2047) (hfr : bits .and .u64 F 4503599627370495 = fr) (hz : fr = 0) (hneg : (F / 9223372036854775808 != 0) = true) :
    FtoaG 177 (.float .f64 f) [45, 73, 110, 102] := by
  intro v w0 w hp hg hown hbel
  have hb : ∀ w : World, (callFunc 197 #[.float .f64 f]).run Tryz.prog w = .ok (.value (.int .u64 F)) w := fun w => by rw [bits64, hF]
  obtain ⟨i0, hi0, hz0, hs0, hb0⟩ := info5z
  subst hz
  obtain ⟨S, hS⟩ : ∃ S : ByteArray, S = ⟨#[45, 73, 110, 102]⟩ := ⟨_, rfl⟩
  have hSl : S.size = 4 := by rw [hS]; rfl
  have hSc : Lib.strCells S = ([45, 73, 110, 102] : List UInt8).map vb := by rw [hS]; rfl
  have HW := Lib.hid (And.intro hown hbel)
  have HS := Lib.hid (And.intro hS (And.intro hSl hSc))
  clear hF hp hg hown hbel hS hSl hSc
  go_enter Tryz.func177, Tryz.ntmps177
  go_wp2_with fail
  go_quiet (fail)
  go_wp2_with (at_builtin; refine Lib.wpList_append_own_string _ rfl _ _ 130 9 rfl w0.heap.size 5 i0 Tryz.underlying130 Tryz.underlying9 hi0 hz0 hs0 hb0 v 0 [] rfl (owns_on HW.out.1 (below_drewN w _)) S (by rw [HS.out.1]; rfl) (by rw [HS.out.2.1]; decide) (by rw [HS.out.2.1]; decide) (HW.out.2.trans ((below_drewN w _).mono HW.out.2.size)).size ?_; intro v' w' h2 h3 _; have H2 := Lib.hid h2; have H3 := Lib.hid h3; clear h2 h3)
  go_ret
  refine ⟨v', rfl, ?_, ?_⟩
  · have h := H2.out
    rw [HS.out.2.1, HS.out.2.2] at h
    exact h
  · exact (HW.out.2.trans ((below_drewN w _).mono HW.out.2.size)).grown H3.out (HW.out.2.trans ((below_drewN w _).mono HW.out.2.size)).size (fun k hk => (HW.out.1.lt k hk).1)
set_option maxHeartbeats 1000000 in
theorem ftoaG32_nan (f : Nat) (F fr : Int) (hF : (f : Int) = F) (hF0 : 0 ≤ F) (hF1 : F < 4294967296)
    (hE : bits .and .i64 (F / 8388608) 255 = 255) (hfr : bits .and .u64 F 8388607 = fr) (hz : (fr == 0) = false) :
    FtoaG 176 (.float .f32 f) [78, 97, 78] := by
  intro v w0 w hp hg hown hbel
  have hb : ∀ w : World, (callFunc 196 #[.float .f32 f]).run Tryz.prog w = .ok (.value (.int .u32 F)) w := fun w => by rw [bits32, hF]
  obtain ⟨i0, hi0, hz0, hs0, hb0⟩ := info5z
  have hz2 : (fr != 0) = true := by simpa using hz
  obtain ⟨S, hS⟩ : ∃ S : ByteArray, S = ⟨#[78, 97, 78]⟩ := ⟨_, rfl⟩
  have hSl : S.size = 3 := by rw [hS]; rfl
  have hSc : Lib.strCells S = ([78, 97, 78] : List UInt8).map vb := by rw [hS]; rfl
  have HW := Lib.hid (And.intro hown hbel)
  have HS := Lib.hid (And.intro hS (And.intro hSl hSc))
  clear hF hp hg hown hbel hS hSl hSc
  go_enter Tryz.func176, Tryz.ntmps176
  go_wp2_with fail
  go_quiet (fail)
  go_wp2_with (at_builtin; refine Lib.wpList_append_own_string _ rfl _ _ 130 9 rfl w0.heap.size 5 i0 Tryz.underlying130 Tryz.underlying9 hi0 hz0 hs0 hb0 v 0 [] rfl (owns_on HW.out.1 (below_drewN w _)) S (by rw [HS.out.1]; rfl) (by rw [HS.out.2.1]; decide) (by rw [HS.out.2.1]; decide) (HW.out.2.trans ((below_drewN w _).mono HW.out.2.size)).size ?_; intro v' w' h2 h3 _; have H2 := Lib.hid h2; have H3 := Lib.hid h3; clear h2 h3)
  go_ret
  refine ⟨v', rfl, ?_, ?_⟩
  · have h := H2.out
    rw [HS.out.2.1, HS.out.2.2] at h
    exact h
  · exact (HW.out.2.trans ((below_drewN w _).mono HW.out.2.size)).grown H3.out (HW.out.2.trans ((below_drewN w _).mono HW.out.2.size)).size (fun k hk => (HW.out.1.lt k hk).1)
set_option maxHeartbeats 1000000 in
theorem ftoaG32_pinf (f : Nat) (F fr : Int) (hF : (f : Int) = F) (hF0 : 0 ≤ F) (hF1 : F < 4294967296)
    (hE : bits .and .i64 (F / 8388608) 255 = 255) (hfr : bits .and .u64 F 8388607 = fr) (hz : fr = 0) (hneg : (F / 2147483648 != 0) = false) :
    FtoaG 176 (.float .f32 f) [43, 73, 110, 102] := by
  intro v w0 w hp hg hown hbel
  have hb : ∀ w : World, (callFunc 196 #[.float .f32 f]).run Tryz.prog w = .ok (.value (.int .u32 F)) w := fun w => by rw [bits32, hF]
  obtain ⟨i0, hi0, hz0, hs0, hb0⟩ := info5z
  subst hz
  obtain ⟨S, hS⟩ : ∃ S : ByteArray, S = ⟨#[43, 73, 110, 102]⟩ := ⟨_, rfl⟩
  have hSl : S.size = 4 := by rw [hS]; rfl
  have hSc : Lib.strCells S = ([43, 73, 110, 102] : List UInt8).map vb := by rw [hS]; rfl
  have HW := Lib.hid (And.intro hown hbel)
  have HS := Lib.hid (And.intro hS (And.intro hSl hSc))
  clear hF hp hg hown hbel hS hSl hSc
  go_enter Tryz.func176, Tryz.ntmps176
  go_wp2_with fail
  go_quiet (fail)
  go_wp2_with (at_builtin; refine Lib.wpList_append_own_string _ rfl _ _ 130 9 rfl w0.heap.size 5 i0 Tryz.underlying130 Tryz.underlying9 hi0 hz0 hs0 hb0 v 0 [] rfl (owns_on HW.out.1 (below_drewN w _)) S (by rw [HS.out.1]; rfl) (by rw [HS.out.2.1]; decide) (by rw [HS.out.2.1]; decide) (HW.out.2.trans ((below_drewN w _).mono HW.out.2.size)).size ?_; intro v' w' h2 h3 _; have H2 := Lib.hid h2; have H3 := Lib.hid h3; clear h2 h3)
  go_ret
  refine ⟨v', rfl, ?_, ?_⟩
  · have h := H2.out
    rw [HS.out.2.1, HS.out.2.2] at h
    exact h
  · exact (HW.out.2.trans ((below_drewN w _).mono HW.out.2.size)).grown H3.out (HW.out.2.trans ((below_drewN w _).mono HW.out.2.size)).size (fun k hk => (HW.out.1.lt k hk).1)
set_option maxHeartbeats 1000000 in
theorem ftoaG32_ninf (f : Nat) (F fr : Int) (hF : (f : Int) = F) (hF0 : 0 ≤ F) (hF1 : F < 4294967296)
    (hE : bits .and .i64 (F / 8388608) 255 = 255) (hfr : bits .and .u64 F 8388607 = fr) (hz : fr = 0) (hneg : (F / 2147483648 != 0) = true) :
    FtoaG 176 (.float .f32 f) [45, 73, 110, 102] := by
  intro v w0 w hp hg hown hbel
  have hb : ∀ w : World, (callFunc 196 #[.float .f32 f]).run Tryz.prog w = .ok (.value (.int .u32 F)) w := fun w => by rw [bits32, hF]
  obtain ⟨i0, hi0, hz0, hs0, hb0⟩ := info5z
  subst hz
  obtain ⟨S, hS⟩ : ∃ S : ByteArray, S = ⟨#[45, 73, 110, 102]⟩ := ⟨_, rfl⟩
  have hSl : S.size = 4 := by rw [hS]; rfl
  have hSc : Lib.strCells S = ([45, 73, 110, 102] : List UInt8).map vb := by rw [hS]; rfl
  have HW := Lib.hid (And.intro hown hbel)
  have HS := Lib.hid (And.intro hS (And.intro hSl hSc))
  clear hF hp hg hown hbel hS hSl hSc
  go_enter Tryz.func176, Tryz.ntmps176
  go_wp2_with fail
  go_quiet (fail)
  go_wp2_with (at_builtin; refine Lib.wpList_append_own_string _ rfl _ _ 130 9 rfl w0.heap.size 5 i0 Tryz.underlying130 Tryz.underlying9 hi0 hz0 hs0 hb0 v 0 [] rfl (owns_on HW.out.1 (below_drewN w _)) S (by rw [HS.out.1]; rfl) (by rw [HS.out.2.1]; decide) (by rw [HS.out.2.1]; decide) (HW.out.2.trans ((below_drewN w _).mono HW.out.2.size)).size ?_; intro v' w' h2 h3 _; have H2 := Lib.hid h2; have H3 := Lib.hid h3; clear h2 h3)
  go_ret
  refine ⟨v', rfl, ?_, ?_⟩
  · have h := H2.out
    rw [HS.out.2.1, HS.out.2.2] at h
    exact h
  · exact (HW.out.2.trans ((below_drewN w _).mono HW.out.2.size)).grown H3.out (HW.out.2.trans ((below_drewN w _).mono HW.out.2.size)).size (fun k hk => (HW.out.1.lt k hk).1)
end Go.Proofs.YtnggkkdcddpjlaaGreatDoor
namespace Go.Proofs.YtnggkkdcddpjlaaGreatDoor
open Go.RowKit
set_option maxRecDepth 100000
set_option linter.unusedVariables false
theorem convert_own {w : World} {base : Nat} {v : Value} {out : List UInt8} (h : w.ownsRow base 5 1 v out.length (out.map vb)) : (convert 130 9 v).run Tryz.prog w = .ok (.string ⟨out.toArray⟩) w := by
  rcases h.2 with ⟨rfl, hn⟩ | ⟨g, cap, cur, rfl, _⟩
  · have : out = [] := List.eq_nil_of_length_eq_zero hn
    subst this
    rw [run_convert_bytes_string w 130 9 5 none 0 0 Tryz.underlying130 Tryz.underlying5 Tryz.underlying9]
    rfl
  · refine run_convert_bytes_back (P := Tryz.prog) w 130 9 5 ⟨g, 0, none⟩ cap out Tryz.underlying130 Tryz.underlying5 Tryz.underlying9 (fun j hj => ?_)
    have := h.cells (g := g) rfl j (vb out[j]) (by simp [hj])
    exact this
def z24 : Array Value := Array.replicate 24 (.int .u8 0)
theorem make24 (w : World) : (Instr.makeSlice 130 (.int .i64 0) (.int .i64 (max 3 24))).run Tryz.prog w = .ok (.slice (some ⟨w.heap.size, 0, none⟩) 0 24) (w.alloc (.cells z24 5)) := by kernel_rfl
theorem ifmtG64 (f : Nat) (out : List UInt8) (hF : FtoaG 177 (.float .f64 f) out) (w : World) (hp : PowAt w) (hg : Good w) :
    Calls Tryz.prog 139 #[.float .f64 f, .int .u8 103, .int .i64 (-1), .int .i64 64] w fun e w' => e = .returned (.string (tx out)) ∧ Below w.heap.size w w' := by
  have hb1 := below_alloc w (.cells z24 5)
  have hF1 := hF (.slice (some ⟨w.heap.size, 0, none⟩) 0 24) w (w.alloc (.cells z24 5)) (hp.keep hb1 (by have := hg.big; omega)) (hg.on hb1) (World.ownsRow_made w _ 24 (Nat.le_refl _) (by decide) rfl) hb1
  have hmk := make24
  generalize z24 = zz at hF1 hmk
  have HF := Lib.hid hF1
  have HMk := hmk
  clear hp hg hF hF1 hb1 hmk
  go_enter Tryz.func139, Tryz.ntmps139
  go_wp2_with (go_at_call 177; refine HF.out.mono ?_; rintro r w5 ⟨v', rfl, ho, hb⟩; have hcv := convert_own ho)
  go_ret
  exact ⟨rfl, hb⟩
/-- strconv.FormatFloat(x, 'g', -1, 64). -/
theorem fmtG64 (f : Nat) (out : List UInt8) (hF : FtoaG 177 (.float .f64 f) out) (w : World) (hp : PowAt w) (hg : Good w) :
    Calls Tryz.prog 101 #[.float .f64 f, .int .u8 103, .int .i64 (-1), .int .i64 64] w fun e w' => e = .returned (.string (tx out)) ∧ Below w.heap.size w w' := by
  have H := Lib.hid (ifmtG64 f out hF w hp hg)
  clear hp hg hF
  go_enter Tryz.func101, Tryz.ntmps101
  go_wp2_with (go_at_call 139; refine H.out.mono ?_; rintro e w' ⟨rfl, hb⟩)
  go_ret
  exact ⟨rfl, hb⟩
theorem ifmtG32 (h f : Nat) (hc : floatToFloatBits .f64 h .f32 = some f) (out : List UInt8) (hF : FtoaG 176 (.float .f32 f) out) (w : World) (hp : PowAt w) (hg : Good w) :
    Calls Tryz.prog 139 #[.float .f64 h, .int .u8 103, .int .i64 (-1), .int .i64 32] w fun e w' => e = .returned (.string (tx out)) ∧ Below w.heap.size w w' := by
  have hb1 := below_alloc w (.cells z24 5)
  have hF1 := hF (.slice (some ⟨w.heap.size, 0, none⟩) 0 24) w (w.alloc (.cells z24 5)) (hp.keep hb1 (by have := hg.big; omega)) (hg.on hb1) (World.ownsRow_made w _ 24 (Nat.le_refl _) (by decide) rfl) hb1
  have hmk := make24
  have hcf := fun w => run_convert_float_float (P := Tryz.prog) w 25 66 .f64 .f32 h f (by rw [Tryz.underlying25]; rfl) Tryz.underlying66 hc
  generalize z24 = zz at hF1 hmk
  have HF := Lib.hid hF1
  clear hp hg hF hF1 hb1 hc
  go_enter Tryz.func139, Tryz.ntmps139
  go_wp2_with (go_at_call 176; refine HF.out.mono ?_; rintro r w5 ⟨v', rfl, ho, hb⟩; have hcv := convert_own ho)
  go_ret
  exact ⟨rfl, hb⟩
/-- strconv.FormatFloat(x, 'g', -1, 32). -/
theorem fmtG32 (h f : Nat) (hc : floatToFloatBits .f64 h .f32 = some f) (out : List UInt8) (hF : FtoaG 176 (.float .f32 f) out) (w : World) (hp : PowAt w) (hg : Good w) :
    Calls Tryz.prog 101 #[.float .f64 h, .int .u8 103, .int .i64 (-1), .int .i64 32] w fun e w' => e = .returned (.string (tx out)) ∧ Below w.heap.size w w' := by
  have H := Lib.hid (ifmtG32 h f hc out hF w hp hg)
  clear hp hg hF
  go_enter Tryz.func101, Tryz.ntmps101
  go_wp2_with (go_at_call 139; refine H.out.mono ?_; rintro e w' ⟨rfl, hb⟩)
  go_ret
  exact ⟨rfl, hb⟩
end Go.Proofs.YtnggkkdcddpjlaaGreatDoor
namespace Go.Proofs.YtnggkkdcddpjlaaGreatDoor
open Go.RowKit
set_option maxRecDepth 100000
set_option linter.unusedVariables false
set_option linter.unusedSimpArgs false
theorem sp_digit (s : ByteArray) (hs : (s.size : Int) ≤ 1000000) (h0 : 0 < s.size) (hd : 48 ≤ byt s 0 ∧ byt s 0 ≤ 57) : SpRun s 0 0 false := by
  intro w
  have e0 : ((s.size : Int) == 0) = false := by rw [beq_eq_false_iff_ne]; omega
  have e1 : 1 ≤ s.size := by omega
  have e2 : 0 < s.size := e1
  have ebyt := byt_at e2
  obtain ⟨c, hc⟩ : ∃ c, byt s 0 = c := ⟨_, rfl⟩
  rw [hc] at ebyt hd
  have b43 : (c == 43) = false := by rw [beq_eq_false_iff_ne]; omega
  have b45 : (c == 45) = false := by rw [beq_eq_false_iff_ne]; omega
  have b105 : (c == 105) = false := by rw [beq_eq_false_iff_ne]; omega
  have b73 : (c == 73) = false := by rw [beq_eq_false_iff_ne]; omega
  have b110 : (c == 110) = false := by rw [beq_eq_false_iff_ne]; omega
  have b78 : (c == 78) = false := by rw [beq_eq_false_iff_ne]; omega
  clear hc
  go_enter Tryz.func239, Tryz.ntmps239
  go_wp2_with fail
  all_goals go_ret3
  all_goals exact ⟨rfl, rfl⟩
theorem cp_none (T : ByteArray) (h : lowAZ (byt T 0) ≠ 105) : cpLen T infT = 0 := by
  have hN : cpStep T infT ⟨0⟩ = none := by
    unfold cpStep
    have e : byt infT 0 = 105 := by decide +kernel
    split
    · rw [if_neg (by rw [e]; exact h)]
    · rfl
  unfold cpLen
  generalize min infT.size T.size = n
  cases n with
  | zero => rfl
  | succ n => rw [runL, hN]
theorem byt_tail (s : ByteArray) (h : 1 < s.size) : byt (s.extract 1 s.size) 0 = byt s 1 := by
  have h1 : 0 < (s.extract 1 s.size).size := by rw [ByteArray.size_extract]; omega
  rw [← byt_at h1, ← byt_at h, ByteArray.getElem_extract]
theorem sp_neg (s : ByteArray) (hs : (s.size : Int) ≤ 1000000) (h0 : 1 < s.size) (hm : byt s 0 = 45) (hd : 48 ≤ byt s 1 ∧ byt s 1 ≤ 57) : SpRun s 0 0 false := by
  intro w
  have e0 : ((s.size : Int) == 0) = false := by rw [beq_eq_false_iff_ne]; omega
  have e1 : 1 ≤ s.size := by omega
  have e2 : 0 < s.size := e1
  have ebyt := byt_at e2
  have hT : ((s.extract 1 s.size).size : Int) ≤ 1000000 := by rw [ByteArray.size_extract]; omega
  obtain ⟨c, hc⟩ : ∃ c, byt s 0 = c := ⟨_, rfl⟩
  rw [hc] at ebyt hm
  subst hm
  have hC := fun w => cp_run (s.extract 1 s.size) infT hT (by decide) w
  rw [cp_none _ (by rw [byt_tail s h0]; unfold lowAZ; rw [if_neg (by omega)]; omega)] at hC
  have HC := Lib.hid hC
  clear hC hc hd
  go_enter Tryz.func239, Tryz.ntmps239
  go_wp2_with (first | (go_at_call 255; refine (HC.out _).mono ?_; rintro r w1 ⟨rfl, rfl⟩))
  all_goals go_ret3
  all_goals exact ⟨rfl, rfl⟩
theorem sp_reads {out : List UInt8} {neg : Bool} {V : Rat} (h : Reads out neg V) : SpRun (tx out) 0 0 false := by
  have hsz := tx_size out
  have h0 := h.l0
  have h1 := h.l1
  rcases h.first with ⟨_, h2⟩ | ⟨_, h2, h3⟩
  · exact sp_digit _ (by omega) (by omega) h2
  · refine sp_neg _ (by omega) ?_ h2 h3
    refine Decidable.byContradiction fun hc => ?_
    have : byt (tx out) 1 = 0 := by unfold byt; rw [dif_neg hc]
    omega
theorem sp_p (s : ByteArray) (hs : (s.size : Int) ≤ 1000000) (h0 : 0 < s.size) (hb : byt s 0 = 43) (hcp : cpLen (s.extract 1 s.size) infT = 3) : SpRun s 9218868437227405312 4 true := by
  intro w
  have hT : ((s.extract 1 s.size).size : Int) ≤ 1000000 := by rw [ByteArray.size_extract]; omega
  have hC := fun w => cp_run (s.extract 1 s.size) infT hT (by decide) w
  rw [hcp] at hC
  have ebyt := byt_at h0
  rw [hb] at ebyt
  have e1 : 1 ≤ s.size := by omega
  have e0 : ((s.size : Int) == 0) = false := by rw [beq_eq_false_iff_ne]; omega
  have HC := Lib.hid hC
  clear hC hcp hb
  go_enter Tryz.func239, Tryz.ntmps239
  go_wp2_with (first | (go_at_call 255; refine (HC.out _).mono ?_; rintro r w1 ⟨rfl, rfl⟩) | (go_at_call 256; refine (inf_pos _).mono ?_; rintro r w2 ⟨rfl, rfl⟩))
  all_goals go_ret3
  all_goals exact ⟨rfl, rfl⟩
theorem sp_m (s : ByteArray) (hs : (s.size : Int) ≤ 1000000) (h0 : 0 < s.size) (hb : byt s 0 = 45) (hcp : cpLen (s.extract 1 s.size) infT = 3) : SpRun s 18442240474082181120 4 true := by
  intro w
  have hT : ((s.extract 1 s.size).size : Int) ≤ 1000000 := by rw [ByteArray.size_extract]; omega
  have hC := fun w => cp_run (s.extract 1 s.size) infT hT (by decide) w
  rw [hcp] at hC
  have ebyt := byt_at h0
  rw [hb] at ebyt
  have e1 : 1 ≤ s.size := by omega
  have e0 : ((s.size : Int) == 0) = false := by rw [beq_eq_false_iff_ne]; omega
  have HC := Lib.hid hC
  clear hC hcp hb
  go_enter Tryz.func239, Tryz.ntmps239
  go_wp2_with (first | (go_at_call 255; refine (HC.out _).mono ?_; rintro r w1 ⟨rfl, rfl⟩) | (go_at_call 256; refine (inf_neg _).mono ?_; rintro r w2 ⟨rfl, rfl⟩))
  all_goals go_ret3
  all_goals exact ⟨rfl, rfl⟩
theorem sp_n (s : ByteArray) (hs : (s.size : Int) ≤ 1000000) (h0 : 0 < s.size) (hb : byt s 0 = 78) (hcp : cpLen s nanT = 3) : SpRun s 9221120237041090561 3 true := by
  intro w
  have hT : (s.size : Int) ≤ 1000000 := by omega
  have hC := fun w => cp_run s nanT hT (by decide) w
  rw [hcp] at hC
  have ebyt := byt_at h0
  rw [hb] at ebyt
  have e1 : 1 ≤ s.size := by omega
  have e0 : ((s.size : Int) == 0) = false := by rw [beq_eq_false_iff_ne]; omega
  have HC := Lib.hid hC
  clear hC hcp hb
  go_enter Tryz.func239, Tryz.ntmps239
  go_wp2_with (first | (go_at_call 255; refine (HC.out _).mono ?_; rintro r w1 ⟨rfl, rfl⟩) | (go_at_call 257; refine (nan_run _).mono ?_; rintro r w2 ⟨rfl, rfl⟩))
  all_goals go_ret3
  all_goals exact ⟨rfl, rfl⟩
theorem sp_inf (neg : Bool) : SpRun (tx (if neg = true then [45, 73, 110, 102] else [43, 73, 110, 102])) (if neg = true then 18442240474082181120 else 9218868437227405312) 4 true := by
  cases neg with
  | false => exact sp_p (tx [43, 73, 110, 102]) (by decide) (by decide) (by decide +kernel) (by decide +kernel)
  | true => exact sp_m (tx [45, 73, 110, 102]) (by decide) (by decide) (by decide +kernel) (by decide +kernel)
theorem sp_nan : SpRun (tx [78, 97, 78]) 9221120237041090561 3 true := sp_n (tx [78, 97, 78]) (by decide) (by decide) (by decide +kernel) (by decide +kernel)
end Go.Proofs.YtnggkkdcddpjlaaGreatDoor
namespace Go.Proofs.YtnggkkdcddpjlaaGreatDoor
open Go.RowKit Ieee
set_option linter.unusedVariables false
set_option maxRecDepth 100000
theorem and_i64 (s : Int) (k : Nat) (m : Int) (hk : k ≤ 62) (hm : (BitVec.ofInt 64 m).toNat = 2 ^ k - 1) : bits BinOp.and IntKind.i64 s m = s % ((2 ^ k : Nat) : Int) := by
  have key : (BitVec.ofInt 64 s &&& BitVec.ofInt 64 m).toNat = (s % ((2 ^ 64 : Nat) : Int)).toNat % 2 ^ k := by
    rw [BitVec.toNat_and, BitVec.toNat_ofInt, hm, Nat.and_two_pow_sub_one_eq_mod]
  show IntKind.i64.wrap ((BitVec.ofInt 64 s &&& BitVec.ofInt 64 m).toNat : Nat) = _
  rw [key, IntKind.wrap_i64]
  have h1 : (2 ^ k : Nat) ≤ 2 ^ 62 := Nat.pow_le_pow_right (by omega) hk
  have h3 : (2 ^ 62 : Nat) = 4611686018427387904 := by decide
  have h4 : (2 ^ 64 : Nat) = 18446744073709551616 := by decide
  have h5 : 0 < (2 ^ k : Nat) := Nat.two_pow_pos k
  have hd : (2 ^ k : Nat) ∣ 2 ^ 64 := Nat.pow_dvd_pow 2 (by omega)
  have h6 : (s % ((2 ^ 64 : Nat) : Int)).toNat % 2 ^ k < 2 ^ k := Nat.mod_lt _ h5
  have h7 : (((s % ((2 ^ 64 : Nat) : Int)).toNat % 2 ^ k : Nat) : Int) = s % ((2 ^ k : Nat) : Int) := by
    rw [Int.natCast_emod, Int.toNat_of_nonneg (Int.emod_nonneg _ (by omega))]
    exact Int.emod_emod_of_dvd s (Int.natCast_dvd_natCast.2 hd)
  rw [← h7]
  omega
theorem and_u64 (s : Int) (k : Nat) (m : Int) (hk : k ≤ 62) (hm : (BitVec.ofInt 64 m).toNat = 2 ^ k - 1) : bits BinOp.and IntKind.u64 s m = s % ((2 ^ k : Nat) : Int) := by
  have key : (BitVec.ofInt 64 s &&& BitVec.ofInt 64 m).toNat = (s % ((2 ^ 64 : Nat) : Int)).toNat % 2 ^ k := by
    rw [BitVec.toNat_and, BitVec.toNat_ofInt, hm, Nat.and_two_pow_sub_one_eq_mod]
  show IntKind.u64.wrap ((BitVec.ofInt 64 s &&& BitVec.ofInt 64 m).toNat : Nat) = _
  rw [key, IntKind.wrap_u64]
  have h1 : (2 ^ k : Nat) ≤ 2 ^ 62 := Nat.pow_le_pow_right (by omega) hk
  have h3 : (2 ^ 62 : Nat) = 4611686018427387904 := by decide
  have h4 : (2 ^ 64 : Nat) = 18446744073709551616 := by decide
  have h5 : 0 < (2 ^ k : Nat) := Nat.two_pow_pos k
  have hd : (2 ^ k : Nat) ∣ 2 ^ 64 := Nat.pow_dvd_pow 2 (by omega)
  have h6 : (s % ((2 ^ 64 : Nat) : Int)).toNat % 2 ^ k < 2 ^ k := Nat.mod_lt _ h5
  have h7 : (((s % ((2 ^ 64 : Nat) : Int)).toNat % 2 ^ k : Nat) : Int) = s % ((2 ^ k : Nat) : Int) := by
    rw [Int.natCast_emod, Int.toNat_of_nonneg (Int.emod_nonneg _ (by omega))]
    exact Int.emod_emod_of_dvd s (Int.natCast_dvd_natCast.2 hd)
  rw [← h7]
  omega
theorem bitLen_top (x k : Nat) (h0 : 2 ^ k ≤ x) (h1 : x < 2 ^ (k + 1)) (hk : k ≤ 62) : Lib.bitLen x = k + 1 := by
  have h64 : (2 ^ (k + 1) : Nat) ≤ 2 ^ 64 := Nat.pow_le_pow_right (by omega) (by omega)
  rw [Lib.bitLen_shift k x h0 (by omega)]
  have h2 : x / 2 ^ k = 1 := by
    have hp : 0 < 2 ^ k := Nat.two_pow_pos k
    have h3 : x / 2 ^ k < 2 := by rw [Nat.div_lt_iff_lt_mul hp]; rw [Nat.pow_succ] at h1; omega
    have h4 : 1 ≤ x / 2 ^ k := by rw [Nat.le_div_iff_mul_le hp]; omega
    omega
  rw [h2]
  have : Lib.bitLen 1 = 1 := by decide +kernel
  rw [this]
theorem bitLen_pos (x : Nat) (h0 : 1 ≤ x) (h1 : x < 2 ^ 62) : 1 ≤ Lib.bitLen x := by
  rw [Lib.bitLen_half x (by omega) (by omega)]
  omega
/-- The shortest digits, printed and read. -/
theorem short_text (neg : Bool) (d : Nat) (q : Int) (hd0 : 0 < d) (hd : d ≤ 100000000000000000) (hq0 : -345 ≤ q) (hq1 : q ≤ 345) :
    ∃ out : List UInt8, Prints neg (trimD d (nd0 d) (nd0 d)) ((nd0 d : Int) + q) (dgs d) out ∧ Reads out neg ((d : Rat) * (10 : Rat) ^ q) := by
  obtain ⟨h1, h2, h3, h4, h5, h6, h7⟩ := digs_ok d hd0 hd
  obtain ⟨out, ho, hr⟩ := g_text neg (trimD d (nd0 d) (nd0 d)) ((nd0 d : Int) + q) (dgs d) h1 h2 (dg_dig d (nd0 d) _) h3 h4 (by omega) (by omega)
  refine ⟨out, ho, ?_⟩
  have e := h7 q
  rw [← e]
  exact hr
theorem rf_reads {out : List UInt8} {neg : Bool} {V : Rat} (h : Reads out neg V) : ∃ (m : Nat) (p : Int), RfRun (tx out) m p neg false false out.length true ∧ 0 < m ∧ m < 144115188075855872 ∧ (m : Rat) * (10 : Rat) ^ p = V := by
  obtain ⟨m, p, hr, h1, h2, h3⟩ := h.val
  obtain ⟨r1, r2⟩ := hr uOK
  have hsz := tx_size out
  have hl := h.l0
  have hl1 := h.l1
  refine ⟨m, p, fun w => ?_, h1, h2, h3⟩
  have := rf_dec uOK under_uOK (tx out) (by omega) (by omega) r1 w
  rw [r2, h.sign, hsz] at this
  exact this
theorem rf_zero (neg : Bool) : RfRun (tx (if neg = true then [45, 48] else [48])) 0 0 neg false false (if neg = true then 2 else 1) true := by
  intro w
  cases neg with
  | false =>
    have h := rf_dec uOK under_uOK (tx [48]) (by decide) (by decide) (by decide +kernel) w
    have hE : Ends (rfStep false 10 19 (tx [48])) (rfStart (rfI1 (tx [48]))) ⟨1, 0, 0, 0, -1, false, false, true, false⟩ := by
      have e : rfI1 (tx [48]) = 0 := by decide +kernel
      rw [e]
      exact eat0 0 0 0 0 false false false false 1 (fun t ht => by have : t = 0 := by omega
                                                                   subst this; decide +kernel) (by decide) (eat_end _ _ _ _ _ _ _ _ _ (Or.inl (by decide)))
    rw [rf_runL _ (by decide +kernel) _ hE] at h
    have hs : rfSign (tx [48]) = false := by decide +kernel
    have hf : rfFin false uOK (tx [48]) ⟨1, 0, 0, 0, -1, false, false, true, false⟩ = ⟨0, 0, false, 1, true⟩ := by
      have e : ∀ D, rfExp false (tx [48]) 1 D false = ⟨true, 1, D, false⟩ := fun D => by
        unfold rfExp
        rw [if_neg (by rintro ⟨h, _⟩; exact absurd h (by decide))]
        rfl
      unfold rfFin
      dsimp only
      rw [if_pos rfl, e]
      dsimp only
      rw [if_pos rfl, if_pos rfl]
      rfl
    rw [hs, hf] at h
    exact h
  | true =>
    have h := rf_dec uOK under_uOK (tx [45, 48]) (by decide) (by decide) (by decide +kernel) w
    have hE : Ends (rfStep false 10 19 (tx [45, 48])) (rfStart (rfI1 (tx [45, 48]))) ⟨2, 0, 0, 0, -1, false, false, true, false⟩ := by
      have e : rfI1 (tx [45, 48]) = 1 := by decide +kernel
      rw [e]
      exact eat0 1 0 0 0 false false false false 1 (fun t ht => by have : t = 0 := by omega
                                                                   subst this; decide +kernel) (by decide) (eat_end _ _ _ _ _ _ _ _ _ (Or.inl (by decide)))
    rw [rf_runL _ (by decide +kernel) _ hE] at h
    have hs : rfSign (tx [45, 48]) = true := by decide +kernel
    have hf : rfFin false uOK (tx [45, 48]) ⟨2, 0, 0, 0, -1, false, false, true, false⟩ = ⟨0, 0, false, 2, true⟩ := by
      have e : ∀ D, rfExp false (tx [45, 48]) 2 D false = ⟨true, 2, D, false⟩ := fun D => by
        unfold rfExp
        rw [if_neg (by rintro ⟨h, _⟩; exact absurd h (by decide))]
        rfl
      unfold rfFin
      dsimp only
      rw [if_pos rfl, e]
      dsimp only
      rw [if_pos rfl, if_pos rfl]
      rfl
    rw [hs, hf] at h
    exact h
theorem asm_norm (f s E r P Q M : Nat) (h : f = s * Q + E * P + r) (hE : 1 ≤ E) (hM : M = P + r) : f = s * Q + ((E - 1) * P + M) := by
  obtain ⟨e, rfl⟩ : ∃ e, E = e + 1 := ⟨E - 1, by omega⟩
  rw [Nat.add_mul, Nat.one_mul] at h
  have e1 : e + 1 - 1 = e := by omega
  rw [h, hM, e1]
  omega
theorem asm_den (f s E r P Q : Nat) (h : f = s * Q + E * P + r) (hE : E = 0) : f = s * Q + (0 * P + r) := by
  rw [h, hE]
  omega
theorem asm_zero (f s E r P Q : Nat) (h : f = s * Q + E * P + r) (hE : E = 0) (hr : r = 0) : f = s * Q := by
  rw [h, hE, hr]
  omega
/-- The round trip of a float of 64 bits. -/
def Trip64 (f : Nat) : Prop := ∃ (out : List UInt8) (f' : Nat), FtoaG 177 (.float .f64 f) out ∧ out.length ≤ 60 ∧ (f' = f ∨ (9218868437227405312 < f % 9223372036854775808 ∧ 9218868437227405312 < f' % 9223372036854775808)) ∧ ∀ w, PW w → Calls Tryz.prog 218 #[.string (tx out)] w (AtPost w f' out.length 0)
theorem trip_back (f M : Nat) (k d q : Int) (neg : Bool) (hM0 : 0 < M) (hM1 : M < 9007199254740992) (hk : -1074 ≤ k) (hk1 : k ≤ 971) (hn : 4503599627370496 ≤ M ∨ k = -1074) (hB : Back M k d q)
    (hf : f = FloatKind.f64.format.word neg ((k + 1074).toNat * 4503599627370496 + M)) (hfin : (k + 1074).toNat * 4503599627370496 + M < FloatKind.f64.format.infRung)
    (hF : ∀ (d' : Nat) (out : List UInt8), d = d' → -345 ≤ q → q ≤ 345 → d' < 18446744073709551616 → Prints neg (trimD d' (nd0 d') (nd0 d')) ((nd0 d' : Int) + q) (dgs d') out → FtoaG 177 (.float .f64 f) out) : Trip64 f := by
  obtain ⟨b0, b1, b2, b3⟩ := hB
  obtain ⟨d', rfl⟩ : ∃ d' : Nat, d = d' := ⟨d.toNat, by omega⟩
  rw [Rat.intCast_natCast d'] at b2 b3
  have hlo := half_least _ _ k (-1074) (by omega) hk b2
  have hhi := not_past _ M k 9007199254740992 53 1025 (by omega) (by decide +kernel) (by omega) b2
  obtain ⟨q0, q1⟩ := p_range d' (by omega) (by omega) q (-1074 - 1) 1025 (-345) 310 hlo hhi (by decide +kernel) (by decide +kernel)
  obtain ⟨out, ho, hr⟩ := short_text neg d' q (by omega) (by omega) q0 (by omega)
  obtain ⟨m, p, hRf, m0, m1, hV⟩ := rf_reads hr
  have hsz := tx_size out
  have hl1 := hr.l1
  rw [← hV] at b2 b3
  refine ⟨out, f, hF d' out rfl q0 (by omega) (by omega) ho, hl1, Or.inl rfl, fun w hw => ?_⟩
  rw [hf]
  exact at64_word (tx out) (by omega) 0 0 (sp_reads hr) m p neg out.length hRf m0 m1 M k hM0 hM1 hk hk1 hn hfin b2 b3 w hw
theorem trip64 (f : Nat) (hf : f < 18446744073709551616) : Trip64 f := by
  obtain ⟨E, hEd⟩ : ∃ E, E = f / 4503599627370496 % 2048 := ⟨_, rfl⟩
  obtain ⟨r, hrd⟩ : ∃ r, r = f % 4503599627370496 := ⟨_, rfl⟩
  obtain ⟨s, hsd⟩ : ∃ s, s = f / 9223372036854775808 := ⟨_, rfl⟩
  have hdec : f = s * 9223372036854775808 + E * 4503599627370496 + r := by omega
  have hE : bits .and .i64 ((f : Int) / 4503599627370496) 2047 = (E : Int) := by
    rw [and_i64 _ 11 _ (by omega) (by decide)]
    omega
  have hfr : bits .and .u64 (f : Int) 4503599627370495 = (r : Int) := by
    rw [and_u64 _ 52 _ (by omega) (by decide)]
    omega
  have hr1 : r < 4503599627370496 := by omega
  have hE1 : E < 2048 := by omega
  have hs1 : s ≤ 1 := by omega
  obtain ⟨neg, hneg⟩ : ∃ neg : Bool, s = if neg = true then 1 else 0 := by
    rcases (by omega : s = 0 ∨ s = 1) with h | h
    · exact ⟨false, by rw [h]; rfl⟩
    · exact ⟨true, by rw [h]; rfl⟩
  have hng : ((f : Int) / 9223372036854775808 != 0) = neg := by
    have : (f : Int) / 9223372036854775808 = (s : Int) := by omega
    rw [this, hneg]
    cases neg <;> rfl
  have hS : FloatKind.f64.format.signWeight = 9223372036854775808 := by decide
  have hI : FloatKind.f64.format.infRung = 9218868437227405312 := by decide
  have hword : ∀ x, FloatKind.f64.format.word neg x = s * 9223372036854775808 + x := fun x => by
    unfold Format.word
    rw [hS, hneg]
    cases neg
    · simp
    · simp
  have HN := Lib.hid hneg
  clear hneg
  rcases (by omega : E = 2047 ∨ (1 ≤ E ∧ E ≤ 2046) ∨ E = 0) with h | h | h
  · rcases (by omega : r = 0 ∨ 1 ≤ r) with h0 | h0
    · cases neg with
      | false =>
        have hs0 : s = 0 := HN.out
        refine ⟨[43, 73, 110, 102], f, ftoaG64_pinf f f r rfl (by omega) (by omega) (by rw [hE, h]; rfl) hfr (by omega) hng, by decide, Or.inl rfl, fun w hw => ?_⟩
        have : f = 9218868437227405312 := by omega
        rw [this]
        exact at_special _ (by decide) _ _ (sp_inf false) w hw
      | true =>
        have hs0 : s = 1 := HN.out
        refine ⟨[45, 73, 110, 102], f, ftoaG64_ninf f f r rfl (by omega) (by omega) (by rw [hE, h]; rfl) hfr (by omega) hng, by decide, Or.inl rfl, fun w hw => ?_⟩
        have : f = 18442240474082181120 := by omega
        rw [this]
        exact at_special _ (by decide) _ _ (sp_inf true) w hw
    · refine ⟨[78, 97, 78], 9221120237041090561, ftoaG64_nan f f r rfl (by omega) (by omega) (by rw [hE, h]; rfl) hfr (by rw [beq_eq_false_iff_ne]; omega), by decide, Or.inr ⟨by omega, by decide⟩, fun w hw => ?_⟩
      exact at_special _ (by decide) _ _ sp_nan w hw
  · have hor : bits .or .u64 (r : Int) 4503599627370496 = ((4503599627370496 + r : Nat) : Int) := by
      have h1 := orK64 r 4503599627370496 (by omega) (by decide)
      have h2 := add_or 52 1 r (by omega)
      rw [Nat.or_comm] at h1
      have e : (2 : Nat) ^ 52 = 4503599627370496 := by decide
      rw [Nat.mul_one, e] at h2
      rw [← h2] at h1
      exact h1
    obtain ⟨M, hM⟩ : ∃ M, M = 4503599627370496 + r := ⟨_, rfl⟩
    rw [← hM] at hor
    obtain ⟨d, q, hB, hSh⟩ := sh_norm M ((E : Int) - 1075) (by omega) (by omega) (by omega) (by omega)
    have hk : ((E : Int) - 1075 + 1074).toNat = E - 1 := by omega
    refine trip_back f M _ d q neg (by omega) (by omega) (by omega) (by omega) (Or.inl (by omega)) hB (by rw [hword, hk]; exact asm_norm f s E r _ _ M hdec (by omega) hM) (by rw [hk, hI]; omega) (fun d' out hd hq0 hq1 hd64 hpr => ?_)
    subst hd
    refine ftoaG64_norm f f E r neg rfl (by omega) (by omega) hng hE hfr (by omega) (by omega) (by omega) (by omega) M hor (by omega) (by omega) (fun w => ?_) d' q hd64 hq0 hq1 ?_ out hpr
    · have h1 := Tryz.bits_Len64 (M : Int) w (by omega) (by omega)
      have h2 : Lib.bitLen ((M : Int)).toNat = 53 := by rw [Int.toNat_natCast]; exact bitLen_top _ 52 (by omega) (by omega) (by omega)
      rw [h2] at h1
      exact h1
    · have e1 : ((M * 2048 : Nat) : Int) = (M : Int) * 2048 := by omega
      have e2 : (E : Int) - 1075 - 11 = (E : Int) + -1023 - 11 - 52 := by omega
      unfold Sh64 at hSh
      rw [e1, e2] at hSh
      exact hSh
  · rcases (by omega : r = 0 ∨ 1 ≤ r) with h0 | h0
    · have hfz := ftoaG64_zero f f E r neg rfl (by omega) (by omega) hng hE hfr (by omega) (by omega) (by omega) (by omega)
      refine ⟨_, f, hfz, by cases neg <;> decide, Or.inl rfl, fun w hw => ?_⟩
      have hl : (if neg = true then [45, 48] else [48] : List UInt8).length = if neg = true then 2 else 1 := by cases neg <;> rfl
      rw [hl]
      refine at_zero _ (by cases neg <;> decide) 0 0 ?_ 0 0 neg false false _ (rf_zero neg) f ?_ w hw
      · cases neg with
        | false => exact sp_digit (tx [48]) (by decide) (by decide) (by decide +kernel)
        | true => exact sp_neg (tx [45, 48]) (by decide) (by decide) (by decide +kernel) (by decide +kernel)
      · have hfs : f = s * 9223372036854775808 := asm_zero f s E r _ _ hdec h h0
        rw [hfs, HN.out]
        cases neg <;> decide +kernel
    · have hlen := Lib.bitLen_le r 52 (by omega) hr1
      have hpos := bitLen_pos r h0 (by omega)
      obtain ⟨l, hl⟩ : ∃ l, l = Lib.bitLen r := ⟨_, rfl⟩
      rw [← hl] at hlen hpos
      have hrl : r < 2 ^ l := by
        have := (Lib.bitLenAux_bounds 64 r (by omega) (by omega)).2.2
        have e : Lib.bitLenAux 64 r = l := hl.symm
        rw [e] at this
        exact this
      have hrl2 : r < 2 ^ (64 - (64 - l)) := by
        have e : 64 - (64 - l) = l := by omega
        rw [e]
        exact hrl
      obtain ⟨d, q, hB, hSh⟩ := sh_sub r (64 - l) h0 (by omega) (by omega) hrl2
      have hk : ((-1074 : Int) + 1074).toNat = 0 := by decide
      refine trip_back f r (-1074) d q neg h0 (by omega) (by omega) (by omega) (Or.inr rfl) hB (by rw [hword, hk]; exact asm_den f s E r _ _ hdec h) (by rw [hk, hI]; omega) (fun d' out hd hq0 hq1 hd64 hpr => ?_)
      subst hd
      have hw0 : IntKind.u64.wrap ((r : Int) * 2 ^ (64 - l)) = ((r * 2 ^ (64 - l) : Nat) : Int) := by
        have h1 : r * 2 ^ (64 - l) < 2 ^ l * 2 ^ (64 - l) := Nat.mul_lt_mul_of_pos_right hrl (Nat.two_pow_pos _)
        rw [← Nat.pow_add] at h1
        have h2 : l + (64 - l) = 64 := by omega
        have h3 : (2 : Nat) ^ 64 = 18446744073709551616 := by decide
        rw [h2, h3] at h1
        have h4 : (r : Int) * 2 ^ (64 - l) = ((r * 2 ^ (64 - l) : Nat) : Int) := by rw [Int.natCast_mul, Int.natCast_pow]; rfl
        rw [h4]
        generalize r * 2 ^ (64 - l) = x at h1
        rw [IntKind.wrap_u64]
        omega
      refine ftoaG64_den f f E r neg rfl (by omega) (by omega) hng hE hfr (by omega) (by omega) (by omega) (by rw [beq_eq_false_iff_ne]; omega) l hpos hlen _ hw0 (by omega) ?_ (fun w => ?_) d' q hd64 hq0 hq1 ?_ out hpr
      · have := u64_in2 ((r : Int) * 2 ^ (64 - l))
        rw [hw0] at this
        exact this.2
      · have h1 := Tryz.bits_Len64 (r : Int) w (by omega) (by omega)
        rw [Int.toNat_natCast, ← hl] at h1
        exact h1
      · have e2 : (-1074 : Int) - ((64 - l : Nat) : Int) = -1022 - (64 - (l : Int)) - 52 := by omega
        unfold Sh64 at hSh
        rw [e2] at hSh
        exact hSh
end Go.Proofs.YtnggkkdcddpjlaaGreatDoor
