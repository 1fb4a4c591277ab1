/- strconv.FormatFloat at the form 'f', shortest, at whatever finite float: total, and the text hangs on the float alone. -/
import Derived.Test.YtnggkkdcddpjlaaGreatDoorD6
namespace Go.Proofs.YtnggkkdcddpjlaaGreatDoor
open Go.RowKit
set_option maxRecDepth 100000
set_option linter.unusedVariables false
theorem convert_own {w : World} {base : Nat} {v : Value} {out : List UInt8} (h : w.ownsRow base 5 1 v out.length (out.map vb)) : (convert 130 9 v).run Tryz.prog w = .ok (.string ⟨out.toArray⟩) w := by
  rcases h.2 with ⟨rfl, hn⟩ | ⟨g, cap, cur, rfl, _⟩
  · have : out = [] := List.eq_nil_of_length_eq_zero hn
    subst this
    rw [run_convert_bytes_string w 130 9 5 none 0 0 Tryz.underlying130 Tryz.underlying5 Tryz.underlying9]
    rfl
  · refine run_convert_bytes_back (P := Tryz.prog) w 130 9 5 ⟨g, 0, none⟩ cap out Tryz.underlying130 Tryz.underlying5 Tryz.underlying9 (fun j hj => ?_)
    have := h.cells (g := g) rfl j (vb out[j]) (by simp [hj])
    exact this
def z24 : Array Value := Array.replicate 24 (.int .u8 0)
theorem make24 (w : World) : (Instr.makeSlice 130 (.int .i64 0) (.int .i64 (max 3 24))).run Tryz.prog w = .ok (.slice (some ⟨w.heap.size, 0, none⟩) 0 24) (w.alloc (.cells z24 5)) := by kernel_rfl
theorem ifmt64 (f : Nat) (out : List UInt8) (hF : Ftoa 177 (.float .f64 f) out) (w : World) (hp : PowAt w) (hg : Good w) :
    Calls Tryz.prog 139 #[.float .f64 f, .int .u8 102, .int .i64 (-1), .int .i64 64] w fun e w' => e = .returned (.string ⟨out.toArray⟩) ∧ Below w.heap.size w w' := by
  have hb1 := below_alloc w (.cells z24 5)
  have hF1 := hF (.slice (some ⟨w.heap.size, 0, none⟩) 0 24) w (w.alloc (.cells z24 5)) (hp.keep hb1 (by have := hg.big; omega)) (hg.on hb1) (World.ownsRow_made w _ 24 (Nat.le_refl _) (by decide) rfl) hb1
  have hmk := make24
  generalize z24 = zz at hF1 hmk
  have HF := Lib.hid hF1
  have HMk := hmk
  clear hp hg hF hF1 hb1 hmk
  go_enter Tryz.func139, Tryz.ntmps139
  go_wp2_with (go_at_call 177; refine HF.out.mono ?_; rintro r w5 ⟨v', rfl, ho, hb⟩; have hcv := convert_own ho)
  go_ret
  exact ⟨rfl, hb⟩
theorem fmt64 (f : Nat) (hf : f < 18446744073709551616) (hfin : f / 4503599627370496 % 2048 < 2047) : ∃ t : ByteArray, t.size ≤ 900 ∧ ∀ w, PowAt w → Good w →
    Calls Tryz.prog 101 #[.float .f64 f, .int .u8 102, .int .i64 (-1), .int .i64 64] w fun e w' => e = .returned (.string t) ∧ Below w.heap.size w w' := by
  obtain ⟨out, hl, hF⟩ := ftoa64_any f hf hfin
  refine ⟨⟨out.toArray⟩, hl, fun w hp hg => ?_⟩
  have H := Lib.hid (ifmt64 f out hF w hp hg)
  clear hp hg hF
  go_enter Tryz.func101, Tryz.ntmps101
  go_wp2_with (go_at_call 139; refine H.out.mono ?_; rintro e w' ⟨rfl, hb⟩)
  go_ret
  exact ⟨rfl, hb⟩
theorem ifmt32 (h f : Nat) (hc : floatToFloatBits .f64 h .f32 = some f) (out : List UInt8) (hF : Ftoa 176 (.float .f32 f) out) (w : World) (hp : PowAt w) (hg : Good w) :
    Calls Tryz.prog 139 #[.float .f64 h, .int .u8 102, .int .i64 (-1), .int .i64 32] w fun e w' => e = .returned (.string ⟨out.toArray⟩) ∧ Below w.heap.size w w' := by
  have hb1 := below_alloc w (.cells z24 5)
  have hF1 := hF (.slice (some ⟨w.heap.size, 0, none⟩) 0 24) w (w.alloc (.cells z24 5)) (hp.keep hb1 (by have := hg.big; omega)) (hg.on hb1) (World.ownsRow_made w _ 24 (Nat.le_refl _) (by decide) rfl) hb1
  have hmk := make24
  have hcf := fun w => run_convert_float_float (P := Tryz.prog) w 25 66 .f64 .f32 h f (by rw [Tryz.underlying25]; rfl) Tryz.underlying66 hc
  generalize z24 = zz at hF1 hmk
  have HF := Lib.hid hF1
  clear hp hg hF hF1 hb1 hc
  go_enter Tryz.func139, Tryz.ntmps139
  go_wp2_with (go_at_call 176; refine HF.out.mono ?_; rintro r w5 ⟨v', rfl, ho, hb⟩; have hcv := convert_own ho)
  go_ret
  exact ⟨rfl, hb⟩
theorem fmt32 (h f : Nat) (hc : floatToFloatBits .f64 h .f32 = some f) (hf : f < 4294967296) (hfin : f / 8388608 % 256 < 255) : ∃ t : ByteArray, t.size ≤ 900 ∧ ∀ w, PowAt w → Good w →
    Calls Tryz.prog 101 #[.float .f64 h, .int .u8 102, .int .i64 (-1), .int .i64 32] w fun e w' => e = .returned (.string t) ∧ Below w.heap.size w w' := by
  obtain ⟨out, hl, hF⟩ := ftoa32_any f hf hfin
  refine ⟨⟨out.toArray⟩, hl, fun w hp hg => ?_⟩
  have H := Lib.hid (ifmt32 h f hc out hF w hp hg)
  clear hp hg hF
  go_enter Tryz.func101, Tryz.ntmps101
  go_wp2_with (go_at_call 139; refine H.out.mono ?_; rintro e w' ⟨rfl, hb⟩)
  go_ret
  exact ⟨rfl, hb⟩
end Go.Proofs.YtnggkkdcddpjlaaGreatDoor
