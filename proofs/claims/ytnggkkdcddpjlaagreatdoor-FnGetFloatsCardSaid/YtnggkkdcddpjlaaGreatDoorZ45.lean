/- pflag's FlagSet: Float32 and Float64: the flag x with its value. FnGetFloats: its own small functions (zzFits2, same29, long29). -/
import Derived.Test.YtnggkkdcddpjlaaGreatDoorZ44
namespace Go.Proofs.YtnggkkdcddpjlaaGreatDoor
open Go.RowKit
set_option maxRecDepth 100000
set_option linter.unusedVariables false
set_option linter.unusedSimpArgs false
/-- A new flag's cells. -/
def flagCells (tp : TypeId) (vb : Nat) (us t : ByteArray) : Array Value :=
  #[.string xN, .string ⟨#[]⟩, .string us, .iface tp (.pointer (some ⟨vb, 0, none⟩)), .string t, .bool false, .string ⟨#[]⟩, .string ⟨#[]⟩, .bool false, .string ⟨#[]⟩, .map none]
theorem flg_new (w : World) (tp : TypeId) (vb : Nat) (us t : ByteArray) : Flg (w.alloc (.cells (flagCells tp vb us t) 199)) w.heap.size (.iface tp (.pointer (some ⟨vb, 0, none⟩))) := by
  have hc : ∀ i, (w.alloc (.cells (flagCells tp vb us t) 199)).cell? ⟨w.heap.size, i, none⟩ = (flagCells tp vb us t)[i]? := fun i => World.cell?_alloc_at _ 199 w.heap.size i rfl
  exact ⟨by simp, (hc 0).trans rfl, (hc 1).trans rfl, (hc 3).trans rfl, (hc 5).trans rfl, fun i => World.frozen?_alloc_at _ 199 w.heap.size i rfl⟩
/-- The flag set holds the flag x. -/
theorem Added.flagged {w w' : World} {b fb vb : Nat} {tp : TypeId} (h : Added b fb w w') (hb : Bare w b) (hf : Flg w fb (.iface tp (.pointer (some ⟨vb, 0, none⟩)))) (hv : vb < w.heap.size) (h1 : b ≠ fb) (h2 : b ≠ vb) (h3 : fb ≠ vb) (hz : w.frozen? ⟨vb, 0, none⟩ = false) : Flagged w' tp b w.heap.size fb vb false := by
  have hs := h.sz
  have h4 := hb.lt
  have h5 := hf.lt
  have hbk : w'.heap[vb]? = w.heap[vb]? := h.fr.block vb hv (fun e => h2 e.symm) (fun e => h3 e.symm) (fun e => h3 e.symm)
  exact ⟨⟨by omega, hs, by omega, by omega⟩, ⟨by omega, h1, h2, by omega, by omega, h3⟩, h.fm, (h.cb 16 (by decide) (by decide)).trans hb.nf, h.mp, (h.cf 3 (by decide)).trans hf.vl, (h.cf 5 (by decide)).trans hf.cg, fun k => (h.zb k).trans (hb.zb k), fun k => (h.zf k).trans (hf.zf k), (World.frozen?_of_block hbk).trans hz, fun _ => ⟨(h.cb 5 (by decide) (by decide)).trans hb.am, (h.cb 6 (by decide) (by decide)).trans hb.ao⟩⟩
/-- What the world holds behind the laying, seen from the world ahead of the flag's block. -/
theorem laid_flag {w w2 w' : World} {b vb : Nat} {tp : TypeId} {us t : ByteArray} {v : Value} (hb : Bare w b) (hv : vb < w.heap.size) (h2 : b ≠ vb) (hc : w.cell? ⟨vb, 0, none⟩ = some v) (hz : w.frozen? ⟨vb, 0, none⟩ = false) (hbe : Below w.heap.size w w2) (h : Added b w2.heap.size (w2.alloc (.cells (flagCells tp vb us t) 199)) w') :
    Flagged w' tp b (w2.heap.size + 1) w2.heap.size vb false ∧ w'.cell? ⟨vb, 0, none⟩ = some v ∧ Frame3 b b b w w' := by
  have hle := hbe.size
  have hlb := hb.lt
  have hB := hbe.trans ((below_alloc w2 (.cells (flagCells tp vb us t) 199)).mono hle)
  have hb3 := hb.on hB
  have hs3 : (w2.alloc (.cells (flagCells tp vb us t) 199)).heap.size = w2.heap.size + 1 := by simp
  have hz3 : (w2.alloc (.cells (flagCells tp vb us t) 199)).frozen? ⟨vb, 0, none⟩ = false := (hB.frozen (p := ⟨vb, 0, none⟩) hv).trans hz
  have hfl := h.flagged hb3 (flg_new w2 tp vb us t) (by omega) (by omega) h2 (by omega) hz3
  rw [hs3] at hfl
  have hbk : w'.heap[vb]? = (w2.alloc (.cells (flagCells tp vb us t) 199)).heap[vb]? := h.fr.block vb (by omega) (fun e => h2 e.symm) (by omega) (by omega)
  refine ⟨hfl, (World.cell?_of_block (a := ⟨vb, 0, none⟩) hbk).trans ((hB.cell (p := ⟨vb, 0, none⟩) hv).trans hc), h.fr.os.trans hB.os, h.fr.tape.trans hB.tape, h.fr.output.trans hB.output, ?_, fun k hk h1 _ _ => ?_⟩
  · have := h.fr.size
    omega
  · exact (h.fr.block k (by omega) h1 (by omega) (by omega)).trans (hB.block k hk)
set_option maxHeartbeats 1000000 in
theorem varpf32 (o : Option Nat) (ho : Ok32 o) (t : ByteArray) (ht : Shows32 o t) (y : Nat) (hy : Is32 o y) (w : World) (hp : PowAt w) (hg : Good w) (b vb : Nat) (hb : Bare w b) (hv : vb < w.heap.size) (hne : b ≠ vb) (hc : w.cell? ⟨vb, 0, none⟩ = some (.float .f32 y)) (hz : w.frozen? ⟨vb, 0, none⟩ = false) (us : ByteArray) :
    Calls Tryz.prog 191 #[.pointer (some ⟨b, 0, none⟩), .iface 118 (.pointer (some ⟨vb, 0, none⟩)), .string xN, .string ⟨#[]⟩, .string us] w fun e w' => ∃ mb fb, (w.heap.size ≤ mb ∧ w.heap.size ≤ fb) ∧ e = .returned (.pointer (some ⟨fb, 0, none⟩)) ∧ Flagged w' 118 b mb fb vb false ∧ w'.cell? ⟨vb, 0, none⟩ = some (.float .f32 y) ∧ Frame3 b b b w w' := by
  obtain ⟨Q, hQ⟩ : ∃ Q : Ending → World → Prop, Q = fun e w' => ∃ mb fb, (w.heap.size ≤ mb ∧ w.heap.size ≤ fb) ∧ e = .returned (.pointer (some ⟨fb, 0, none⟩)) ∧ Flagged w' 118 b mb fb vb false ∧ w'.cell? ⟨vb, 0, none⟩ = some (.float .f32 y) ∧ Frame3 b b b w w' := ⟨_, rfl⟩
  rw [← hQ]
  have HQ := Lib.hid hQ
  have HS := Lib.hid (str32 o ho t ht y hy w hp hg vb hc)
  have hm := fun w => m_str32 ⟨vb, 0, none⟩ w
  have HB := Lib.hid hb
  have HV := Lib.hid (And.intro hv (And.intro hne (And.intro hc hz)))
  clear hQ ht hp hg hb hv hne hc hz
  go_enter Tryz.func191, Tryz.ntmps191
  go_wp2_with (first | (go_at_call 75; refine HS.out.mono ?_; rintro r w2 ⟨rfl, hb2⟩; have HB2 := Lib.hid hb2; clear hb2) | (go_at_call 216; obtain ⟨hv, hne, hc, hz⟩ := HV.out; refine (addf_run _ b w2.heap.size (.iface 118 (.pointer (some ⟨vb, 0, none⟩))) (HB.out.on (HB2.out.trans ((below_alloc _ _).mono HB2.out.size))) (flg_new w2 118 vb us t) (by have := HB.out.lt; have := HB2.out.size; omega)).mono ?_; rintro r w4 ⟨rfl, hA⟩; have HA := Lib.hid (laid_flag HB.out hv hne hc hz HB2.out hA); clear hA hv hne hc hz))
  rw [HQ.out]
  have := HB2.out.size
  exact ⟨_, _, ⟨by omega, by omega⟩, rfl, HA.out.1, HA.out.2.1, HA.out.2.2⟩
set_option maxHeartbeats 1000000 in
theorem varp32 (o : Option Nat) (ho : Ok32 o) (t : ByteArray) (ht : Shows32 o t) (y : Nat) (hy : Is32 o y) (w : World) (hp : PowAt w) (hg : Good w) (b vb : Nat) (hb : Bare w b) (hv : vb < w.heap.size) (hne : b ≠ vb) (hc : w.cell? ⟨vb, 0, none⟩ = some (.float .f32 y)) (hz : w.frozen? ⟨vb, 0, none⟩ = false) (us : ByteArray) :
    Calls Tryz.prog 168 #[.pointer (some ⟨b, 0, none⟩), .iface 118 (.pointer (some ⟨vb, 0, none⟩)), .string xN, .string ⟨#[]⟩, .string us] w fun e w' => ∃ mb fb, (w.heap.size ≤ mb ∧ w.heap.size ≤ fb) ∧ e = .returned (.tuple #[]) ∧ Flagged w' 118 b mb fb vb false ∧ w'.cell? ⟨vb, 0, none⟩ = some (.float .f32 y) ∧ Frame3 b b b w w' := by
  have HS := Lib.hid (varpf32 o ho t ht y hy w hp hg b vb hb hv hne hc hz us)
  clear ht hp hg hb hv hne hc hz
  go_enter Tryz.func168, Tryz.ntmps168
  go_wp2_with (go_at_call 191; refine HS.out.mono ?_; rintro r w2 ⟨mb, fb, hmf, rfl, hA⟩; have HA := Lib.hid hA; clear hA)
  refine bodyPost_end (results_none rfl _ _ _) rfl ?_
  exact ⟨_, _, hmf, rfl, HA.out.1, HA.out.2.1, HA.out.2.2⟩
theorem newv32 (y : Nat) (w : World) (vb : Nat) (hv : vb < w.heap.size) (v0 : Value) (hc : w.cell? ⟨vb, 0, none⟩ = some v0) (hz : w.frozen? ⟨vb, 0, none⟩ = false) :
    Calls Tryz.prog 132 #[.float .f32 y, .pointer (some ⟨vb, 0, none⟩)] w fun e w' => e = .returned (.pointer (some ⟨vb, 0, none⟩)) ∧ w' = w.setCell ⟨vb, 0, none⟩ (.float .f32 y) := by
  go_enter Tryz.func132, Tryz.ntmps132
  go_wp2
  go_ret
  exact ⟨rfl, rfl⟩
set_option maxHeartbeats 1000000 in
theorem fvarp32 (o : Option Nat) (ho : Ok32 o) (t : ByteArray) (ht : Shows32 o t) (y : Nat) (hy : Is32 o y) (w : World) (hp : PowAt w) (hg : Good w) (b : Nat) (hb : Bare w b) (us : ByteArray) (w1 : World) (hw1 : w1 = w.alloc (.cells #[.float .f32 0] 66)) :
    Calls Tryz.prog 126 #[.pointer (some ⟨b, 0, none⟩), .pointer (some ⟨w.heap.size, 0, none⟩), .string xN, .string ⟨#[]⟩, .float .f32 y, .string us] w1 fun e w' => ∃ mb fb, (w.heap.size ≤ mb ∧ w.heap.size ≤ fb) ∧ e = .returned (.tuple #[]) ∧ Flagged w' 118 b mb fb w.heap.size false ∧ w'.cell? ⟨w.heap.size, 0, none⟩ = some (.float .f32 y) ∧ Frame3 b b b w w' := by
  obtain ⟨Q, hQ⟩ : ∃ Q : Ending → World → Prop, Q = fun e w' => ∃ mb fb, (w.heap.size ≤ mb ∧ w.heap.size ≤ fb) ∧ e = .returned (.tuple #[]) ∧ Flagged w' 118 b mb fb w.heap.size false ∧ w'.cell? ⟨w.heap.size, 0, none⟩ = some (.float .f32 y) ∧ Frame3 b b b w w' := ⟨_, rfl⟩
  rw [← hQ]
  have HQ := Lib.hid hQ
  have hs1 : w1.heap.size = w.heap.size + 1 := by rw [hw1]; simp
  have hc1 : w1.cell? ⟨w.heap.size, 0, none⟩ = some (.float .f32 0) := by rw [hw1]; exact (World.cell?_alloc_at _ 66 w.heap.size 0 rfl).trans rfl
  have hz1 : w1.frozen? ⟨w.heap.size, 0, none⟩ = false := by rw [hw1]; exact World.frozen?_alloc_at _ 66 w.heap.size 0 rfl
  have hb1 : Below w.heap.size w w1 := by rw [hw1]; exact below_alloc _ _
  obtain ⟨w2, hw2⟩ : ∃ w2, w2 = w1.setCell ⟨w.heap.size, 0, none⟩ (.float .f32 y) := ⟨_, rfl⟩
  have hs2 : w2.heap.size = w.heap.size + 1 := by rw [hw2]; simp [World.setCell, hs1]
  have hc2 : w2.cell? ⟨w.heap.size, 0, none⟩ = some (.float .f32 y) := by rw [hw2]; exact World.cell?_setCell_same _ _ _ (u := .float .f32 0) hc1
  have hz2 : w2.frozen? ⟨w.heap.size, 0, none⟩ = false := by rw [hw2, World.frozen?_setCell]; exact hz1
  have hb2 : Below w.heap.size w w2 := by rw [hw2]; exact hb1.setCell (p := ⟨w.heap.size, 0, none⟩) (Nat.le_refl _) _
  have HV := Lib.hid (newv32 y w1 w.heap.size (by omega) _ hc1 hz1)
  have hlb := hb.lt
  have HP := Lib.hid (varp32 o ho t ht y hy w2 (hp.keep hb2 (by have := hg.big; omega)) (hg.on hb2) b w.heap.size (hb.on hb2) (by omega) (by omega) hc2 hz2 us)
  have HB := Lib.hid hb2
  have HW := Lib.hid hw2
  have HS := Lib.hid hs2
  clear hQ ht hp hg hb hw1 hs1 hc1 hz1 hb1 hw2 hs2 hc2 hz2 hb2 hlb
  go_enter Tryz.func126, Tryz.ntmps126
  go_wp2_with (first | (go_at_call 132; refine HV.out.mono ?_; rintro r w3 ⟨rfl, rfl⟩) | (go_at_call 168; rw [← HW.out]; refine HP.out.mono ?_; rintro r w4 ⟨mb, fb, hmf, rfl, hA⟩; have HA := Lib.hid hA; clear hA))
  refine bodyPost_end (results_none rfl _ _ _) rfl ?_
  rw [HQ.out]
  obtain ⟨h1, h2, h3⟩ := HA.out
  have hb2 := HB.out
  have hs2 := HS.out
  refine ⟨mb, fb, ⟨by omega, by omega⟩, rfl, h1, h2, h3.os.trans hb2.os, h3.tape.trans hb2.tape, h3.output.trans hb2.output, ?_, fun k hk n1 _ _ => (h3.block k (by omega) n1 n1 n1).trans (hb2.block k hk)⟩
  have := h3.size
  omega
set_option maxHeartbeats 1000000 in
theorem flag32 (o : Option Nat) (ho : Ok32 o) (t : ByteArray) (ht : Shows32 o t) (y : Nat) (hy : Is32 o y) (w : World) (hp : PowAt w) (hg : Good w) (b : Nat) (hb : Bare w b) (us : ByteArray) :
    Calls Tryz.prog 66 #[.pointer (some ⟨b, 0, none⟩), .string xN, .float .f32 y, .string us] w fun e w' => ∃ mb fb, (w.heap.size ≤ mb ∧ w.heap.size ≤ fb) ∧ e = .returned (.pointer (some ⟨w.heap.size, 0, none⟩)) ∧ Flagged w' 118 b mb fb w.heap.size false ∧ w'.cell? ⟨w.heap.size, 0, none⟩ = some (.float .f32 y) ∧ Frame3 b b b w w' := by
  have HS := Lib.hid (fvarp32 o ho t ht y hy w hp hg b hb us)
  clear ht hp hg hb
  go_enter Tryz.func66, Tryz.ntmps66
  go_wp2_with (go_at_call 126; refine (HS.out _ rfl).mono ?_; rintro r w2 ⟨mb, fb, hmf, rfl, hA⟩; have HA := Lib.hid hA; clear hA)
  go_ret
  exact ⟨_, _, hmf, rfl, HA.out.1, HA.out.2.1, HA.out.2.2⟩
set_option maxHeartbeats 1000000 in
theorem varpf64 (f f' : Nat) (t : ByteArray) (ht : Shows64 f t f') (w : World) (hp : PowAt w) (hg : Good w) (b vb : Nat) (hb : Bare w b) (hv : vb < w.heap.size) (hne : b ≠ vb) (hc : w.cell? ⟨vb, 0, none⟩ = some (.float .f64 f)) (hz : w.frozen? ⟨vb, 0, none⟩ = false) (us : ByteArray) :
    Calls Tryz.prog 191 #[.pointer (some ⟨b, 0, none⟩), .iface 122 (.pointer (some ⟨vb, 0, none⟩)), .string xN, .string ⟨#[]⟩, .string us] w fun e w' => ∃ mb fb, (w.heap.size ≤ mb ∧ w.heap.size ≤ fb) ∧ e = .returned (.pointer (some ⟨fb, 0, none⟩)) ∧ Flagged w' 122 b mb fb vb false ∧ w'.cell? ⟨vb, 0, none⟩ = some (.float .f64 f) ∧ Frame3 b b b w w' := by
  obtain ⟨Q, hQ⟩ : ∃ Q : Ending → World → Prop, Q = fun e w' => ∃ mb fb, (w.heap.size ≤ mb ∧ w.heap.size ≤ fb) ∧ e = .returned (.pointer (some ⟨fb, 0, none⟩)) ∧ Flagged w' 122 b mb fb vb false ∧ w'.cell? ⟨vb, 0, none⟩ = some (.float .f64 f) ∧ Frame3 b b b w w' := ⟨_, rfl⟩
  rw [← hQ]
  have HQ := Lib.hid hQ
  have HS := Lib.hid (str64 f f' t ht w hp hg vb hc)
  have hm := fun w => m_str64 ⟨vb, 0, none⟩ w
  have HB := Lib.hid hb
  have HV := Lib.hid (And.intro hv (And.intro hne (And.intro hc hz)))
  clear hQ ht hp hg hb hv hne hc hz
  go_enter Tryz.func191, Tryz.ntmps191
  go_wp2_with (first | (go_at_call 78; refine HS.out.mono ?_; rintro r w2 ⟨rfl, hb2⟩; have HB2 := Lib.hid hb2; clear hb2) | (go_at_call 216; obtain ⟨hv, hne, hc, hz⟩ := HV.out; refine (addf_run _ b w2.heap.size (.iface 122 (.pointer (some ⟨vb, 0, none⟩))) (HB.out.on (HB2.out.trans ((below_alloc _ _).mono HB2.out.size))) (flg_new w2 122 vb us t) (by have := HB.out.lt; have := HB2.out.size; omega)).mono ?_; rintro r w4 ⟨rfl, hA⟩; have HA := Lib.hid (laid_flag HB.out hv hne hc hz HB2.out hA); clear hA hv hne hc hz))
  rw [HQ.out]
  have := HB2.out.size
  exact ⟨_, _, ⟨by omega, by omega⟩, rfl, HA.out.1, HA.out.2.1, HA.out.2.2⟩
set_option maxHeartbeats 1000000 in
theorem varp64 (f f' : Nat) (t : ByteArray) (ht : Shows64 f t f') (w : World) (hp : PowAt w) (hg : Good w) (b vb : Nat) (hb : Bare w b) (hv : vb < w.heap.size) (hne : b ≠ vb) (hc : w.cell? ⟨vb, 0, none⟩ = some (.float .f64 f)) (hz : w.frozen? ⟨vb, 0, none⟩ = false) (us : ByteArray) :
    Calls Tryz.prog 168 #[.pointer (some ⟨b, 0, none⟩), .iface 122 (.pointer (some ⟨vb, 0, none⟩)), .string xN, .string ⟨#[]⟩, .string us] w fun e w' => ∃ mb fb, (w.heap.size ≤ mb ∧ w.heap.size ≤ fb) ∧ e = .returned (.tuple #[]) ∧ Flagged w' 122 b mb fb vb false ∧ w'.cell? ⟨vb, 0, none⟩ = some (.float .f64 f) ∧ Frame3 b b b w w' := by
  have HS := Lib.hid (varpf64 f f' t ht w hp hg b vb hb hv hne hc hz us)
  clear ht hp hg hb hv hne hc hz
  go_enter Tryz.func168, Tryz.ntmps168
  go_wp2_with (go_at_call 191; refine HS.out.mono ?_; rintro r w2 ⟨mb, fb, hmf, rfl, hA⟩; have HA := Lib.hid hA; clear hA)
  refine bodyPost_end (results_none rfl _ _ _) rfl ?_
  exact ⟨_, _, hmf, rfl, HA.out.1, HA.out.2.1, HA.out.2.2⟩
theorem newv64 (y : Nat) (w : World) (vb : Nat) (hv : vb < w.heap.size) (v0 : Value) (hc : w.cell? ⟨vb, 0, none⟩ = some v0) (hz : w.frozen? ⟨vb, 0, none⟩ = false) :
    Calls Tryz.prog 134 #[.float .f64 y, .pointer (some ⟨vb, 0, none⟩)] w fun e w' => e = .returned (.pointer (some ⟨vb, 0, none⟩)) ∧ w' = w.setCell ⟨vb, 0, none⟩ (.float .f64 y) := by
  go_enter Tryz.func134, Tryz.ntmps134
  go_wp2
  go_ret
  exact ⟨rfl, rfl⟩
set_option maxHeartbeats 1000000 in
theorem fvarp64 (f f' : Nat) (t : ByteArray) (ht : Shows64 f t f') (w : World) (hp : PowAt w) (hg : Good w) (b : Nat) (hb : Bare w b) (us : ByteArray) (w1 : World) (hw1 : w1 = w.alloc (.cells #[.float .f64 0] 25)) :
    Calls Tryz.prog 129 #[.pointer (some ⟨b, 0, none⟩), .pointer (some ⟨w.heap.size, 0, none⟩), .string xN, .string ⟨#[]⟩, .float .f64 f, .string us] w1 fun e w' => ∃ mb fb, (w.heap.size ≤ mb ∧ w.heap.size ≤ fb) ∧ e = .returned (.tuple #[]) ∧ Flagged w' 122 b mb fb w.heap.size false ∧ w'.cell? ⟨w.heap.size, 0, none⟩ = some (.float .f64 f) ∧ Frame3 b b b w w' := by
  obtain ⟨Q, hQ⟩ : ∃ Q : Ending → World → Prop, Q = fun e w' => ∃ mb fb, (w.heap.size ≤ mb ∧ w.heap.size ≤ fb) ∧ e = .returned (.tuple #[]) ∧ Flagged w' 122 b mb fb w.heap.size false ∧ w'.cell? ⟨w.heap.size, 0, none⟩ = some (.float .f64 f) ∧ Frame3 b b b w w' := ⟨_, rfl⟩
  rw [← hQ]
  have HQ := Lib.hid hQ
  have hs1 : w1.heap.size = w.heap.size + 1 := by rw [hw1]; simp
  have hc1 : w1.cell? ⟨w.heap.size, 0, none⟩ = some (.float .f64 0) := by rw [hw1]; exact (World.cell?_alloc_at _ 25 w.heap.size 0 rfl).trans rfl
  have hz1 : w1.frozen? ⟨w.heap.size, 0, none⟩ = false := by rw [hw1]; exact World.frozen?_alloc_at _ 25 w.heap.size 0 rfl
  have hb1 : Below w.heap.size w w1 := by rw [hw1]; exact below_alloc _ _
  obtain ⟨w2, hw2⟩ : ∃ w2, w2 = w1.setCell ⟨w.heap.size, 0, none⟩ (.float .f64 f) := ⟨_, rfl⟩
  have hs2 : w2.heap.size = w.heap.size + 1 := by rw [hw2]; simp [World.setCell, hs1]
  have hc2 : w2.cell? ⟨w.heap.size, 0, none⟩ = some (.float .f64 f) := by rw [hw2]; exact World.cell?_setCell_same _ _ _ (u := .float .f64 0) hc1
  have hz2 : w2.frozen? ⟨w.heap.size, 0, none⟩ = false := by rw [hw2, World.frozen?_setCell]; exact hz1
  have hb2 : Below w.heap.size w w2 := by rw [hw2]; exact hb1.setCell (p := ⟨w.heap.size, 0, none⟩) (Nat.le_refl _) _
  have HV := Lib.hid (newv64 f w1 w.heap.size (by omega) _ hc1 hz1)
  have hlb := hb.lt
  have HP := Lib.hid (varp64 f f' t ht w2 (hp.keep hb2 (by have := hg.big; omega)) (hg.on hb2) b w.heap.size (hb.on hb2) (by omega) (by omega) hc2 hz2 us)
  have HB := Lib.hid hb2
  have HW := Lib.hid hw2
  have HS := Lib.hid hs2
  clear hQ ht hp hg hb hw1 hs1 hc1 hz1 hb1 hw2 hs2 hc2 hz2 hb2 hlb
  go_enter Tryz.func129, Tryz.ntmps129
  go_wp2_with (first | (go_at_call 134; refine HV.out.mono ?_; rintro r w3 ⟨rfl, rfl⟩) | (go_at_call 168; rw [← HW.out]; refine HP.out.mono ?_; rintro r w4 ⟨mb, fb, hmf, rfl, hA⟩; have HA := Lib.hid hA; clear hA))
  refine bodyPost_end (results_none rfl _ _ _) rfl ?_
  rw [HQ.out]
  obtain ⟨h1, h2, h3⟩ := HA.out
  have hb2 := HB.out
  have hs2 := HS.out
  refine ⟨mb, fb, ⟨by omega, by omega⟩, rfl, h1, h2, h3.os.trans hb2.os, h3.tape.trans hb2.tape, h3.output.trans hb2.output, ?_, fun k hk n1 _ _ => (h3.block k (by omega) n1 n1 n1).trans (hb2.block k hk)⟩
  have := h3.size
  omega
set_option maxHeartbeats 1000000 in
theorem flag64 (f f' : Nat) (t : ByteArray) (ht : Shows64 f t f') (w : World) (hp : PowAt w) (hg : Good w) (b : Nat) (hb : Bare w b) (us : ByteArray) :
    Calls Tryz.prog 69 #[.pointer (some ⟨b, 0, none⟩), .string xN, .float .f64 f, .string us] w fun e w' => ∃ mb fb, (w.heap.size ≤ mb ∧ w.heap.size ≤ fb) ∧ e = .returned (.pointer (some ⟨w.heap.size, 0, none⟩)) ∧ Flagged w' 122 b mb fb w.heap.size false ∧ w'.cell? ⟨w.heap.size, 0, none⟩ = some (.float .f64 f) ∧ Frame3 b b b w w' := by
  have HS := Lib.hid (fvarp64 f f' t ht w hp hg b hb us)
  clear ht hp hg hb
  go_enter Tryz.func69, Tryz.ntmps69
  go_wp2_with (go_at_call 129; refine (HS.out _ rfl).mono ?_; rintro r w2 ⟨mb, fb, hmf, rfl, hA⟩; have HA := Lib.hid hA; clear hA)
  go_ret
  exact ⟨_, _, hmf, rfl, HA.out.1, HA.out.2.1, HA.out.2.2⟩
end Go.Proofs.YtnggkkdcddpjlaaGreatDoor
namespace Go.Proofs.YtnggkkdcddpjlaaGreatDoor
open Go.RowKit
set_option maxRecDepth 100000
set_option linter.unusedVariables false
set_option linter.unusedSimpArgs false
/-- The texts of a slice. -/
def Texts (w : World) (pv : Option Addr) (n : Nat) (ss : Nat → ByteArray) : Prop := n ≤ 9223372036854775807 ∧ ∀ i, i < n → ∃ a, pv = some a ∧ w.cell? (a.add i) = some (.string (ss i))
theorem Texts.on {w w' : World} {pv : Option Addr} {n : Nat} {ss : Nat → ByteArray} (h : Texts w pv n ss) (hb : Below w.heap.size w w') : Texts w' pv n ss :=
  ⟨h.1, fun i hi => by
    obtain ⟨a, ha, hc⟩ := h.2 i hi
    exact ⟨a, ha, (hb.cell (World.block_lt_of_cell? w _ hc)).trans hc⟩⟩
set_option maxHeartbeats 1000000 in
theorem fits2_run (w : World) (pv : Option Addr) (n c : Nat) (ss : Nat → ByteArray) (h : Texts w pv n ss) :
    Calls Tryz.prog 33 #[.slice pv n c] w fun e w' => ∃ r : Bool, e = .returned (.bool r) ∧ (r = true → n ≤ 2147483647) ∧ w' = w := by
  obtain ⟨Q, hQ⟩ : ∃ Q : Ending → World → Prop, Q = fun e w' => ∃ r : Bool, e = .returned (.bool r) ∧ (r = true → n ≤ 2147483647) ∧ w' = w := ⟨_, rfl⟩
  rw [← hQ]
  have HQ := Lib.hid hQ
  have H := Lib.hid h
  have hn := h.1
  clear hQ h
  by_cases hbig : (2147483647 : Int) < (n : Int)
  · go_enter Tryz.func33, Tryz.ntmps33
    go_wp2
    all_goals (try go_ret3)
    rw [HQ.out]
    exact ⟨false, rfl, fun e => (by cases e), rfl⟩
  go_enter Tryz.func33, Tryz.ntmps33
  go_wp2_with fail
  go_loopg [10] n (fun g i wr => ∃ k : Nat, k + g = n ∧ i = .int .i64 k ∧ wr = w)
  case atStart => exact ⟨0, by omega, rfl, rfl⟩
  case round =>
    obtain ⟨k, h1, rfl, rfl⟩ := hrel
    by_cases hk : (k : Int) < (n : Int)
    · obtain ⟨a, rfl, hc⟩ := H.out.2 k (by omega)
      by_cases hl : (2147483647 : Int) < ((ss k).size : Int)
      · go_wp2_with fail
        all_goals (try go_ret3)
        rw [HQ.out]
        exact ⟨false, rfl, fun e => (by cases e), rfl⟩
      · go_wp2_with fail
        go_roundg (gk - 1)
        case measure => omega
        case rel => exact ⟨k + 1, by omega, by simp, rfl⟩
    · go_wp2_with fail
      all_goals (try go_ret3)
      rw [HQ.out]
      exact ⟨true, rfl, fun _ => by omega, rfl⟩
set_option maxHeartbeats 1000000 in
theorem long_run (w : World) (pv : Option Addr) (n c : Nat) (ss : Nat → ByteArray) (h : Texts w pv n ss) :
    Calls Tryz.prog 35 #[.slice pv n c] w fun e w' => ∃ r : Bool, e = .returned (.bool r) ∧ (r = false → ∀ i, i < n → (ss i).size ≤ 400) ∧ w' = w := by
  obtain ⟨Q, hQ⟩ : ∃ Q : Ending → World → Prop, Q = fun e w' => ∃ r : Bool, e = .returned (.bool r) ∧ (r = false → ∀ i, i < n → (ss i).size ≤ 400) ∧ w' = w := ⟨_, rfl⟩
  rw [← hQ]
  have HQ := Lib.hid hQ
  have H := Lib.hid h
  have hn := h.1
  clear hQ h
  go_enter Tryz.func35, Tryz.ntmps35
  go_wp2_with fail
  go_loopg [7] n (fun g i wr => ∃ k : Nat, k + g = n ∧ i = .int .i64 k ∧ wr = w ∧ Hid (∀ j, j < k → (ss j).size ≤ 400))
  case atStart => exact ⟨0, by omega, rfl, rfl, Lib.hid (fun j hj => by omega)⟩
  case round =>
    obtain ⟨k, h1, rfl, rfl, HJ⟩ := hrel
    by_cases hk : (k : Int) < (n : Int)
    · obtain ⟨a, rfl, hc⟩ := H.out.2 k (by omega)
      by_cases hl : (400 : Int) < ((ss k).size : Int)
      · go_wp2_with fail
        all_goals (try go_ret3)
        rw [HQ.out]
        exact ⟨true, rfl, fun e => (by cases e), rfl⟩
      · go_wp2_with fail
        go_roundg (gk - 1)
        case measure => omega
        case rel =>
          refine ⟨k + 1, by omega, by simp, rfl, Lib.hid (fun j hj => ?_)⟩
          rcases Nat.lt_or_ge j k with h | h
          · exact HJ.out j h
          · have : j = k := by omega
            subst this
            omega
    · go_wp2_with fail
      all_goals (try go_ret3)
      rw [HQ.out]
      exact ⟨false, rfl, fun _ i hi => HJ.out i (by omega), rfl⟩
/-- Whether two floats are the same to the law. -/
def smB (x y : Nat) : Bool := decide (x = y) || ((FloatKind.f64.format.order x x != some .eq) && (FloatKind.f64.format.order y y != some .eq))
theorem floatbits64' (n : Nat) (w : World) : (callFunc 64 #[.float .f64 n]).run Tryz.prog w = .ok (.value (.int .u64 (n : Int))) w := by kernel_rfl
set_option maxHeartbeats 1000000 in
theorem same_run (x y : Nat) (w : World) : Calls Tryz.prog 34 #[.float .f64 x, .float .f64 y] w fun e w' => e = .returned (.bool (smB x y)) ∧ w' = w := by
  have hf1 := fun w => floatbits64' x w
  have hf2 := fun w => floatbits64' y w
  unfold smB
  by_cases h : x = y
  · subst h
    cases hb : (FloatKind.f64.format.order x x != some .eq)
    all_goals
      go_enter Tryz.func34, Tryz.ntmps34
      go_wp2
      all_goals (try go_ret)
      all_goals simp
  · have hi : ¬ ((x : Int) = (y : Int)) := by omega
    cases hb : (FloatKind.f64.format.order x x != some .eq)
    all_goals cases hb2 : (FloatKind.f64.format.order y y != some .eq)
    all_goals
      go_enter Tryz.func34, Tryz.ntmps34
      go_wp2
      all_goals (try go_ret)
      all_goals simp [h]
end Go.Proofs.YtnggkkdcddpjlaaGreatDoor
