/- pflag's float32Value and float64Value: newFloatValue, Set, String, Type, and the readers of a flag's text. Maps from texts, told as lists of pairs in the order in which the keys came: what a store, a look-up, len and a step of a range do. pflag's FlagSet: what a world holds of one with the flag x; its look-up. -/
import Derived.Test.YtnggkkdcddpjlaaGreatDoorZ41
import Derived.Test.YtnggkkdcddpjlaaGreatDoorZ01
import Derived.Laws.IdiomRangeMap
import Derived.MapKept
namespace Go.Proofs.YtnggkkdcddpjlaaGreatDoor
open Go.RowKit Ieee
set_option maxRecDepth 100000
set_option linter.unusedVariables false
set_option linter.unusedSimpArgs false
section
variable {P : Program} {w : World} {a : Addr} {m : Mode}
@[go_sem] theorem run_store_float (k : FloatKind) (b : Nat) : (store a (.float k b) m).run P w = stored P w a (.float k b) m := run_store P w a _ m rfl
@[go_sem] theorem run_store_map (r : Option Nat) : (store a (.map r) m).run P w = stored P w a (.map r) m := run_store P w a _ m rfl
end
/-- float32Value(x) of a float64. -/
theorem conv204 (o : Option Nat) (g : Nat) (h : G32 o g) : ∃ (cv : World → Nat) (cd : Nat), (∀ w, (convert 25 204 (.float .f64 g)).run Tryz.prog w = .ok (.float .f32 (cv w)) (w.drewN cd)) ∧ ∀ w, Is32 o (cv w) := by
  obtain ⟨_, h⟩ := h
  cases o with
  | some y => exact ⟨fun _ => y, 0, fun w => run_convert_float_float (P := Tryz.prog) w 25 204 .f64 .f32 g y (by rw [Tryz.underlying25]; rfl) Tryz.underlying204 h.2.1, fun w => rfl⟩
  | none =>
    obtain ⟨nn, hnn⟩ := conv_nan 25 204 .f64 .f32 g (by rw [Tryz.underlying25]; rfl) Tryz.underlying204 (by decide) (nan64 h)
    exact ⟨nn, 1, fun w => (hnn w).1, fun w => (hnn w).2⟩
/-- What a flag's value of 32 bits is told as: a word that is no nan, or some nan. -/
def Ok32 (o : Option Nat) : Prop := ∀ y, o = some y → y < 4294967296 ∧ Num32 y
theorem conv_to64 (src : TypeId) (hs : Tryz.prog.underlying src = some (.float .f32)) (o : Option Nat) (ho : Ok32 o) (y : Nat) (h : Is32 o y) : ∃ (cv : World → Nat) (cd : Nat), (∀ w, (convert src 25 (.float .f32 y)).run Tryz.prog w = .ok (.float .f64 (cv w)) (w.drewN cd)) ∧ ∀ w, G32 o (cv w) := by
  cases o with
  | some z =>
    obtain ⟨h1, h2⟩ := ho z rfl
    have h : y = z := h
    subst h
    obtain ⟨g, g1, g2, g3, g4⟩ := wid_nar y h1 h2
    exact ⟨fun _ => g, 0, fun w => run_convert_float_float (P := Tryz.prog) w src 25 .f32 .f64 y g (by rw [hs]; rfl) Tryz.underlying25 g3, fun w => ⟨g1, g3, g4, g2⟩⟩
  | none =>
    obtain ⟨nn, hnn⟩ := conv_nan src 25 .f32 .f64 y (by rw [hs]; rfl) Tryz.underlying25 (by decide) (nan32 h.2)
    exact ⟨nn, 1, fun w => (hnn w).1, fun w => ⟨(hnn w).2.1, (hnn w).2.2⟩⟩
theorem conv_to32 (o : Option Nat) (g : Nat) (h : G32 o g) : ∃ (cv : World → Nat) (cd : Nat), (∀ w, (convert 25 66 (.float .f64 g)).run Tryz.prog w = .ok (.float .f32 (cv w)) (w.drewN cd)) ∧ ∀ w, Is32 o (cv w) := by
  obtain ⟨_, h⟩ := h
  exact conv_narrow g o (by
    cases o with
    | some y => exact h.2.1
    | none => exact h)
theorem grown_set {w w1 : World} {cd vb : Nat} (hb : Below w.heap.size w w1) (v : Value) (o : Nat) : w.grownBy ((w1.drewN cd).setCell ⟨vb, o, none⟩ v) (some vb) :=
  ⟨hb.os, hb.tape, hb.output, by simpa [World.setCell] using hb.size, fun k hk hne => (Below.heap_setCell _ _ _ _ (fun h => hne (by rw [h]))).trans (hb.block k hk)⟩
set_option maxHeartbeats 1000000 in
theorem set32 (s : ByteArray) (o : Option Nat) (bad : Bool) (hP : ∀ w, Good w → PW32 w → Calls Tryz.prog 133 #[.string s, .int .i64 32] w (Num32Post w o bad)) (w : World) (hg : Good w) (hw : PW32 w) (vb : Nat) (v0 : Value)
    (hlt : vb < w.heap.size) (hc : w.cell? ⟨vb, 0, none⟩ = some v0) (hf : w.frozen? ⟨vb, 0, none⟩ = false) :
    Calls Tryz.prog 74 #[.pointer (some ⟨vb, 0, none⟩), .string s] w fun e w' => ∃ er y, Is32 o y ∧ e = .returned er ∧ ErrIs bad er ∧ w.grownBy w' (some vb) ∧ w'.cell? ⟨vb, 0, none⟩ = some (.float .f32 y) ∧ w'.frozen? ⟨vb, 0, none⟩ = false := by
  obtain ⟨Q, hQ⟩ : ∃ Q : Ending → World → Prop, Q = fun e w' => ∃ er y, Is32 o y ∧ e = .returned er ∧ ErrIs bad er ∧ w.grownBy w' (some vb) ∧ w'.cell? ⟨vb, 0, none⟩ = some (.float .f32 y) ∧ w'.frozen? ⟨vb, 0, none⟩ = false := ⟨_, rfl⟩
  rw [← hQ]
  have HQ := Lib.hid hQ
  have H := Lib.hid (hP w hg hw)
  have HC := Lib.hid (And.intro hlt (And.intro hc hf))
  clear hQ hP hg hw hlt hc hf
  go_enter Tryz.func74, Tryz.ntmps74
  go_wp2_with (go_at_call 133; refine H.out.mono ?_; rintro r w1 ⟨g, er, hG, rfl, hE, hb⟩; obtain ⟨cv, cd, hcv, hcw⟩ := conv204 o g hG; have HB := Lib.hid hb; have HE := Lib.hid hE; have HCW := Lib.hid hcw; have hc1 : w1.cell? ⟨vb, 0, none⟩ = some v0 := (hb.cell (p := ⟨vb, 0, none⟩) HC.out.1).trans HC.out.2.1; have hf1 : w1.frozen? ⟨vb, 0, none⟩ = false := (hb.frozen (p := ⟨vb, 0, none⟩) HC.out.1).trans HC.out.2.2; clear hG hE hb hcw)
  rw [HQ.out]
  exact ⟨_, _, HCW.out _, rfl, HE.out, grown_set HB.out _ _, World.cell?_setCell_same _ _ _ hc1, (World.frozen?_setCell _ _ _ _).trans hf1⟩
set_option maxHeartbeats 1000000 in
theorem set64 (s : ByteArray) (f : Nat) (bad : Bool) (hP : ∀ w, Good w → PW w → Calls Tryz.prog 133 #[.string s, .int .i64 64] w (NumPost w (.float .f64 f) bad)) (w : World) (hg : Good w) (hw : PW w) (vb : Nat) (v0 : Value)
    (hlt : vb < w.heap.size) (hc : w.cell? ⟨vb, 0, none⟩ = some v0) (hf : w.frozen? ⟨vb, 0, none⟩ = false) :
    Calls Tryz.prog 77 #[.pointer (some ⟨vb, 0, none⟩), .string s] w fun e w' => ∃ er, e = .returned er ∧ ErrIs bad er ∧ w.grownBy w' (some vb) ∧ w'.cell? ⟨vb, 0, none⟩ = some (.float .f64 f) ∧ w'.frozen? ⟨vb, 0, none⟩ = false := by
  obtain ⟨Q, hQ⟩ : ∃ Q : Ending → World → Prop, Q = fun e w' => ∃ er, e = .returned er ∧ ErrIs bad er ∧ w.grownBy w' (some vb) ∧ w'.cell? ⟨vb, 0, none⟩ = some (.float .f64 f) ∧ w'.frozen? ⟨vb, 0, none⟩ = false := ⟨_, rfl⟩
  rw [← hQ]
  have HQ := Lib.hid hQ
  have H := Lib.hid (hP w hg hw)
  have HC := Lib.hid (And.intro hlt (And.intro hc hf))
  clear hQ hP hg hw hlt hc hf
  go_enter Tryz.func77, Tryz.ntmps77
  go_wp2_with (go_at_call 133; refine H.out.mono ?_; rintro r w1 ⟨er, rfl, hE, hb⟩; have HB := Lib.hid hb; have HE := Lib.hid hE; have hc1 : w1.cell? ⟨vb, 0, none⟩ = some v0 := (hb.cell (p := ⟨vb, 0, none⟩) HC.out.1).trans HC.out.2.1; have hf1 : w1.frozen? ⟨vb, 0, none⟩ = false := (hb.frozen (p := ⟨vb, 0, none⟩) HC.out.1).trans HC.out.2.2; clear hE hb)
  rw [HQ.out]
  exact ⟨_, rfl, HE.out, grown_set (cd := 0) HB.out _ _, World.cell?_setCell_same _ _ _ hc1, (World.frozen?_setCell _ _ _ _).trans hf1⟩
theorem nan_bits32 (y : Nat) (hy : y < 4294967296) (hn : ¬ Num32 y) : FtoaG 176 (.float .f32 y) [78, 97, 78] := by
  unfold Num32 at hn
  have hE : bits .and .i64 ((y : Int) / 8388608) 255 = 255 := by
    rw [and_i64 _ 8 _ (by omega) (by decide)]
    omega
  have hfr : bits .and .u64 (y : Int) 8388607 = ((y % 8388608 : Nat) : Int) := by
    rw [and_u64 _ 23 _ (by omega) (by decide)]
    omega
  exact ftoaG32_nan y y ((y % 8388608 : Nat) : Int) rfl (by omega) (by omega) hE hfr (by rw [beq_eq_false_iff_ne]; omega)
theorem ifmtG32n (g : Nat) (hg64 : ¬ Num64 g) (w : World) (hp : PowAt w) (hg : Good w) :
    Calls Tryz.prog 139 #[.float .f64 g, .int .u8 103, .int .i64 (-1), .int .i64 32] w fun e w' => e = .returned (.string (tx [78, 97, 78])) ∧ Below w.heap.size w w' := by
  obtain ⟨nn, hnn⟩ := conv_nan 25 66 .f64 .f32 g (by rw [Tryz.underlying25]; rfl) Tryz.underlying66 (by decide) (nan64 hg64)
  have hb1 := (below_alloc w (.cells z24 5)).drew
  have hF1 := fun y hy hn => nan_bits32 y hy hn (.slice (some ⟨w.heap.size, 0, none⟩) 0 24) w (w.alloc (.cells z24 5)).drew (hp.keep hb1 (by have := hg.big; omega)) (hg.on hb1) (World.ownsRow_made w _ 24 (Nat.le_refl _) (by decide) rfl) hb1
  have hmk := make24
  have hcf := fun w => (hnn w).1
  have HN := Lib.hid (fun w => (hnn w).2)
  generalize z24 = zz at hF1 hmk
  have HF := Lib.hid hF1
  clear hp hg hF1 hb1 hnn
  go_enter Tryz.func139, Tryz.ntmps139
  go_wp2_with (go_at_call 176; refine (HF.out _ (HN.out _).1 (HN.out _).2).mono ?_; rintro r w5 ⟨v', rfl, ho, hb⟩; have hcv := convert_own ho)
  go_ret
  exact ⟨rfl, hb⟩
theorem fmtG32n (g : Nat) (hg64 : ¬ Num64 g) (w : World) (hp : PowAt w) (hg : Good w) :
    Calls Tryz.prog 101 #[.float .f64 g, .int .u8 103, .int .i64 (-1), .int .i64 32] w fun e w' => e = .returned (.string (tx [78, 97, 78])) ∧ Below w.heap.size w w' := by
  have H := Lib.hid (ifmtG32n g hg64 w hp hg)
  clear hp hg
  go_enter Tryz.func101, Tryz.ntmps101
  go_wp2_with (go_at_call 139; refine H.out.mono ?_; rintro e w' ⟨rfl, hb⟩)
  go_ret
  exact ⟨rfl, hb⟩
/-- What FormatFloat shows at 32 bits, and that it reads back. -/
structure Shows32 (o : Option Nat) (t : ByteArray) : Prop where
  size : t.size ≤ 60
  shows : ∀ w g, G32 o g → PowAt w → Good w → Calls Tryz.prog 101 #[.float .f64 g, .int .u8 103, .int .i64 (-1), .int .i64 32] w fun e w' => e = .returned (.string t) ∧ Below w.heap.size w w'
  reads : ∀ w, Good w → PW32 w → Calls Tryz.prog 133 #[.string t, .int .i64 32] w (Num32Post w o false)
theorem show32 (o : Option Nat) (ho : Ok32 o) : ∃ t, Shows32 o t := by
  cases o with
  | some y =>
    obtain ⟨h1, h2⟩ := ho y rfl
    obtain ⟨out, hF, hl, hr⟩ := trip32_pf y h1
    have e : told32w y = some y := if_pos h2
    rw [e] at hr
    exact ⟨tx out, by rw [tx_size]; exact hl, fun w g hG hp hg => fmtG32 g y hG.2.2.1 out hF w hp hg, hr⟩
  | none =>
    refine ⟨tx [78, 97, 78], by decide, fun w g hG hp hg => fmtG32n g hG.2 w hp hg, fun w hg hw => ?_⟩
    exact pf_run32 (tx [78, 97, 78]) (by decide) none 0 (by omega) (fun w hw => pfIn32_same (tx [78, 97, 78]) none (fun y hy => (by cases hy)) 3 0 (fun w hw => at32_special _ (by decide) _ _ sp_nan none (by show ¬ Num64 _; unfold Num64; decide) w hw) (by decide) w hw) w hg hw
/-- What FormatFloat shows at 64 bits, and that it reads back. -/
structure Shows64 (f : Nat) (t : ByteArray) (f' : Nat) : Prop where
  size : t.size ≤ 60
  same : f' = f ∨ (¬ Num64 f ∧ ¬ Num64 f')
  shows : ∀ w, PowAt w → Good w → Calls Tryz.prog 101 #[.float .f64 f, .int .u8 103, .int .i64 (-1), .int .i64 64] w fun e w' => e = .returned (.string t) ∧ Below w.heap.size w w'
  reads : ∀ w, Good w → PW w → Calls Tryz.prog 133 #[.string t, .int .i64 64] w (NumPost w (.float .f64 f') false)
theorem show64 (f : Nat) (hf : f < 18446744073709551616) : ∃ t f', Shows64 f t f' := by
  obtain ⟨out, f', hF, hl, hs, hr⟩ := trip64_pf f hf
  exact ⟨tx out, f', by rw [tx_size]; exact hl, hs, fun w hp hg => fmtG64 f out hF w hp hg, hr⟩
theorem str32 (o : Option Nat) (ho : Ok32 o) (t : ByteArray) (ht : Shows32 o t) (y : Nat) (hy : Is32 o y) (w : World) (hp : PowAt w) (hg : Good w) (vb : Nat) (hc : w.cell? ⟨vb, 0, none⟩ = some (.float .f32 y)) :
    Calls Tryz.prog 75 #[.pointer (some ⟨vb, 0, none⟩)] w fun e w' => e = .returned (.string t) ∧ Below w.heap.size w w' := by
  obtain ⟨cv, cd, hcv, hcw⟩ := conv_to64 204 Tryz.underlying204 o ho y hy
  have HS := Lib.hid ht.shows
  have HW := Lib.hid (And.intro hp hg)
  have HCW := Lib.hid hcw
  clear ht hp hg hcw
  go_enter Tryz.func75, Tryz.ntmps75
  go_wp2_with (go_at_call 101; refine (HS.out _ _ (HCW.out _) (HW.out.1.keep (below_drewN w cd) (by have := HW.out.2.big; omega)) (HW.out.2.on (below_drewN w cd))).mono ?_; rintro r w1 ⟨rfl, hb⟩; have HB := Lib.hid hb; clear hb)
  go_ret
  exact ⟨rfl, (below_drewN w cd).trans HB.out⟩
theorem str64 (f f' : Nat) (t : ByteArray) (ht : Shows64 f t f') (w : World) (hp : PowAt w) (hg : Good w) (vb : Nat) (hc : w.cell? ⟨vb, 0, none⟩ = some (.float .f64 f)) :
    Calls Tryz.prog 78 #[.pointer (some ⟨vb, 0, none⟩)] w fun e w' => e = .returned (.string t) ∧ Below w.heap.size w w' := by
  have HS := Lib.hid ht.shows
  have HW := Lib.hid (And.intro hp hg)
  clear ht hp hg
  go_enter Tryz.func78, Tryz.ntmps78
  go_wp2_with (go_at_call 101; refine (HS.out _ HW.out.1 HW.out.2).mono ?_; rintro r w1 ⟨rfl, hb⟩; have HB := Lib.hid hb; clear hb)
  go_ret
  exact ⟨rfl, HB.out⟩
theorem cnv32 (o : Option Nat) (t : ByteArray) (ht : Shows32 o t) (w : World) (hg : Good w) (hw : PW32 w) :
    Calls Tryz.prog 128 #[.string t] w fun e w' => ∃ y, Is32 o y ∧ e = .returned (.tuple #[.iface 66 (.float .f32 y), .nilIface]) ∧ Below w.heap.size w w' := by
  obtain ⟨Q, hQ⟩ : ∃ Q : Ending → World → Prop, Q = fun e w' => ∃ y, Is32 o y ∧ e = .returned (.tuple #[.iface 66 (.float .f32 y), .nilIface]) ∧ Below w.heap.size w w' := ⟨_, rfl⟩
  rw [← hQ]
  have HQ := Lib.hid hQ
  have H := Lib.hid (ht.reads w hg hw)
  clear hQ ht hg hw
  go_enter Tryz.func128, Tryz.ntmps128
  go_wp2_with (go_at_call 133; refine H.out.mono ?_; rintro r w1 ⟨g, er, hG, rfl, hE, hb⟩; obtain rfl : er = .nilIface := hE; obtain ⟨cv, cd, hcv, hcw⟩ := conv_to32 o g hG; have HB := Lib.hid hb; have HCW := Lib.hid hcw; clear hG hb hcw)
  all_goals (try go_ret3)
  all_goals rw [HQ.out]
  all_goals exact ⟨_, HCW.out _, rfl, below_dn HB.out _⟩
theorem cnv64 (f f' : Nat) (t : ByteArray) (ht : Shows64 f t f') (w : World) (hg : Good w) (hw : PW w) :
    Calls Tryz.prog 130 #[.string t] w fun e w' => e = .returned (.tuple #[.iface 25 (.float .f64 f'), .nilIface]) ∧ Below w.heap.size w w' := by
  obtain ⟨Q, hQ⟩ : ∃ Q : Ending → World → Prop, Q = fun e w' => e = .returned (.tuple #[.iface 25 (.float .f64 f'), .nilIface]) ∧ Below w.heap.size w w' := ⟨_, rfl⟩
  rw [← hQ]
  have HQ := Lib.hid hQ
  have H := Lib.hid (ht.reads w hg hw)
  clear hQ ht hg hw
  go_enter Tryz.func130, Tryz.ntmps130
  go_wp2_with (go_at_call 133; refine H.out.mono ?_; rintro r w1 ⟨er, rfl, hE, hb⟩; obtain rfl : er = .nilIface := hE; have HB := Lib.hid hb; clear hb)
  all_goals (try go_ret3)
  all_goals rw [HQ.out]
  all_goals exact ⟨rfl, HB.out⟩
theorem typ32 (v : Value) (w : World) : Calls Tryz.prog 280 #[v] w fun e w' => e = .returned (.string ⟨#[102, 108, 111, 97, 116, 51, 50]⟩) ∧ w' = w := by
  go_enter Tryz.func280, Tryz.ntmps280
  go_wp2
  go_ret
  exact ⟨rfl, rfl⟩
theorem typ64 (v : Value) (w : World) : Calls Tryz.prog 281 #[v] w fun e w' => e = .returned (.string ⟨#[102, 108, 111, 97, 116, 54, 52]⟩) ∧ w' = w := by
  go_enter Tryz.func281, Tryz.ntmps281
  go_wp2
  go_ret
  exact ⟨rfl, rfl⟩
end Go.Proofs.YtnggkkdcddpjlaaGreatDoor
namespace Go.Proofs.YtnggkkdcddpjlaaGreatDoor
open Go.RowKit
set_option linter.unusedVariables false
set_option linter.unusedSimpArgs false
abbrev Pairs := List (ByteArray × Value)
def entsFrom : Nat → Pairs → List MapEntry
  | _, [] => []
  | i, (k, v) :: l => { key := .string k, val := v, born := i } :: entsFrom (i + 1) l
def ents (l : Pairs) : Array MapEntry := (entsFrom 0 l).toArray
/-- A map that has come by its pairs one by one. -/
def mobj (l : Pairs) : Obj := .map (ents l) l.length
/-- The first pair of a key, and its place. -/
def lkFrom (k : ByteArray) : Nat → Pairs → Option (Nat × Value)
  | _, [] => none
  | i, (k', v) :: l => if k == k' then some (i, v) else lkFrom k (i + 1) l
def lk (k : ByteArray) (l : Pairs) : Option (Nat × Value) := lkFrom k 0 l
/-- A store. -/
def upd (l : Pairs) (k : ByteArray) (v : Value) : Pairs := match lk k l with | some (i, _) => l.set i (k, v) | none => l ++ [(k, v)]
def setO (w : World) (r : Nat) (o : Obj) : World := { w with heap := w.heap.setIfInBounds r o }
theorem entsFrom_length : ∀ (l : Pairs) (i : Nat), (entsFrom i l).length = l.length
  | [], _ => rfl
  | (k, v) :: l, i => by simp [entsFrom, entsFrom_length l (i + 1)]
theorem ents_size (l : Pairs) : (ents l).size = l.length := entsFrom_length l 0
theorem entsFrom_get : ∀ (l : Pairs) (i j : Nat), (entsFrom i l)[j]? = (l[j]?).map fun p => { key := .string p.1, val := p.2, born := i + j }
  | [], i, j => by simp [entsFrom]
  | (k, v) :: l, i, 0 => by simp [entsFrom]
  | (k, v) :: l, i, j + 1 => by
    simp only [entsFrom, List.getElem?_cons_succ]
    rw [entsFrom_get l (i + 1) j, show i + 1 + j = i + (j + 1) by omega]
theorem ents_get (l : Pairs) (j : Nat) : (ents l)[j]? = (l[j]?).map fun p => { key := .string p.1, val := p.2, born := j } := by
  have := entsFrom_get l 0 j
  simpa [ents] using this
theorem find_ents (k : ByteArray) : ∀ (l : Pairs) (i j : Nat), Instr.findNow .string (.string k) (entsFrom i l) j = some (lkFrom k j l)
  | [], i, j => rfl
  | (k', v) :: l, i, j => by
    simp only [entsFrom, Instr.findNow, Instr.sameNow, lkFrom]
    cases h : (k == k') with
    | true => simp
    | false => simpa using find_ents k l (i + 1) (j + 1)
theorem lkFrom_at (k : ByteArray) : ∀ (l : Pairs) (i : Nat) {p : Nat} {v : Value}, lkFrom k i l = some (p, v) → i ≤ p ∧ l[p - i]? = some (k, v)
  | [], i, p, v, h => by simp [lkFrom] at h
  | (k', v') :: l, i, p, v, h => by
    unfold lkFrom at h
    by_cases hk : (k == k') = true
    · rw [if_pos hk] at h
      simp only [Option.some.injEq, Prod.mk.injEq] at h
      obtain ⟨rfl, rfl⟩ := h
      have hk' := (MapKept.bytes_beq k k').1 hk
      subst hk'
      exact ⟨Nat.le_refl _, by simp⟩
    · rw [if_neg hk] at h
      obtain ⟨h1, h2⟩ := lkFrom_at k l (i + 1) h
      refine ⟨by omega, ?_⟩
      rw [show p - i = (p - (i + 1)) + 1 by omega]
      simpa using h2
theorem lk_at {k : ByteArray} {l : Pairs} {p : Nat} {v : Value} (h : lk k l = some (p, v)) : l[p]? = some (k, v) := by
  simpa using (lkFrom_at k l 0 h).2
theorem modify_ents (l : Pairs) (p : Nat) (k : ByteArray) (v : Value) (hp : (l[p]?).map (·.1) = some k) :
    (ents l).modify p (fun e => { e with key := .string k, val := v }) = ents (l.set p (k, v)) := by
  apply Array.ext_getElem?
  intro j
  rw [Array.getElem?_modify, ents_get, ents_get, List.getElem?_set]
  by_cases hj : p = j
  · subst hj
    rw [if_pos rfl, if_pos rfl]
    cases hl : l[p]? with
    | none => rw [hl] at hp; simp at hp
    | some q =>
      have hlt : p < l.length := by
        rcases Nat.lt_or_ge p l.length with h | h
        · exact h
        · rw [List.getElem?_eq_none h] at hl; cases hl
      rw [if_pos hlt]
      simp
  · rw [if_neg hj, if_neg hj]
theorem push_ents (l : Pairs) (k : ByteArray) (v : Value) : (ents l).push { key := .string k, val := v, born := l.length } = ents (l ++ [(k, v)]) := by
  apply Array.ext_getElem?
  intro j
  rw [Array.getElem?_push, ents_get, ents_get, ents_size]
  by_cases h : j = l.length
  · subst h
    simp
  · rw [if_neg h]
    rcases Nat.lt_or_ge j l.length with h1 | h1
    · rw [List.getElem?_append_left h1]
    · rw [List.getElem?_eq_none h1, List.getElem?_eq_none (by simp; omega)]
section
variable {P : Program}
theorem run_mapUpd {T K E : TypeId} (hT : P.underlying T = some (.map K E)) (hK : P.underlying K = some .string) (w : World) (r : Nat) (l : Pairs) (k : ByteArray) (v : Value) (h : w.heap[r]? = some (mobj l)) :
    (Instr.mapUpdate T (.map (some r)) (.string k) v).run P w = .ok () (setO w r (mobj (upd l k v))) := by
  have hf : ∀ w, (Instr.findKey K (.string k) (ents l).toList).run P w = .ok (lk k l) w := fun w => by
    simp [Instr.findKey, run_underlying hK, ents, find_ents, lk, Result.andThen]
  have hs : Instr.sameBits 10000 (.string k) (.string k) = true := by simp [Instr.sameBits, MapKept.bytes_beq]
  have hc : ∀ w, (Instr.checkKey false 10000 K (.string k)).run P w = .ok () w := fun w => MapKept.run_checkKey (w := w) hK (by simp [MapKept.IsKey]) false 9999
  unfold mobj at h
  unfold upd
  cases hl : lk k l with
  | none =>
    rw [hl] at hf
    simp [Instr.mapUpdate, run_underlying hT, MapKept.run_getObj_map h, hc, hf, MapKept.run_setObj_map _ h, Result.andThen, setO, push_ents, mobj]
  | some q =>
    obtain ⟨p, v'⟩ := q
    rw [hl] at hf
    have hp := lk_at hl
    have hm := modify_ents l p k v (by rw [hp]; rfl)
    have hk : ((ents l)[p]?).map (·.key) = some (.string k) := by rw [ents_get, hp]; rfl
    have hst : ∀ w, (Instr.keyThatStays (.string k) (.string k)).run P w = .ok (.string k) w := fun w => by simp [Instr.keyThatStays, hs]
    simp [Instr.mapUpdate, run_underlying hT, MapKept.run_getObj_map h, hc, hf, hk, hst, MapKept.run_setObj_map _ h, Result.andThen, setO, hm, mobj]
theorem run_lkOk {T K E : TypeId} (hT : P.underlying T = some (.map K E)) (hK : P.underlying K = some .string) (z : Value) (hz : ∀ w, (zeroValue E).run P w = .ok z w) (w : World) (r : Nat) (l : Pairs) (k : ByteArray) (h : w.heap[r]? = some (mobj l)) :
    (Instr.lookup T (.map (some r)) (.string k) true).run P w = .ok (.tuple #[((lk k l).map (·.2)).getD z, .bool (lk k l).isSome]) w := by
  have hf : ∀ w, (Instr.findKey K (.string k) (ents l).toList).run P w = .ok (lk k l) w := fun w => by
    simp [Instr.findKey, run_underlying hK, ents, find_ents, lk, Result.andThen]
  have hc : ∀ b w, (Instr.checkKey b 10000 K (.string k)).run P w = .ok () w := fun b w => MapKept.run_checkKey (w := w) hK (by simp [MapKept.IsKey]) b 9999
  unfold mobj at h
  cases hl : lk k l with
  | none =>
    rw [hl] at hf
    simp [Instr.lookup, run_underlying hT, MapKept.run_getObj_map h, hc, hf, hz, Result.andThen]
  | some q =>
    rw [hl] at hf
    simp [Instr.lookup, run_underlying hT, MapKept.run_getObj_map h, hc, hf, hz, Result.andThen]
theorem run_lk {T K E : TypeId} (hT : P.underlying T = some (.map K E)) (hK : P.underlying K = some .string) (z : Value) (hz : ∀ w, (zeroValue E).run P w = .ok z w) (w : World) (r : Nat) (l : Pairs) (k : ByteArray) (h : w.heap[r]? = some (mobj l)) :
    (Instr.lookup T (.map (some r)) (.string k) false).run P w = .ok (((lk k l).map (·.2)).getD z) w := by
  have hf : ∀ w, (Instr.findKey K (.string k) (ents l).toList).run P w = .ok (lk k l) w := fun w => by
    simp [Instr.findKey, run_underlying hK, ents, find_ents, lk, Result.andThen]
  have hc : ∀ b w, (Instr.checkKey b 10000 K (.string k)).run P w = .ok () w := fun b w => MapKept.run_checkKey (w := w) hK (by simp [MapKept.IsKey]) b 9999
  unfold mobj at h
  cases hl : lk k l with
  | none =>
    rw [hl] at hf
    simp [Instr.lookup, run_underlying hT, MapKept.run_getObj_map h, hc, hf, hz, Result.andThen]
  | some q =>
    rw [hl] at hf
    simp [Instr.lookup, run_underlying hT, MapKept.run_getObj_map h, hc, hf, hz, Result.andThen]
end
theorem setO_heap (w : World) (r : Nat) (o : Obj) (h : r < w.heap.size) : (setO w r o).heap[r]? = some o := by simp [setO, h]
theorem setO_other (w : World) (r k : Nat) (o : Obj) (h : k ≠ r) : (setO w r o).heap[k]? = w.heap[k]? := by simp [setO, Ne.symm h]
theorem setO_size (w : World) (r : Nat) (o : Obj) : (setO w r o).heap.size = w.heap.size := by simp [setO]
end Go.Proofs.YtnggkkdcddpjlaaGreatDoor
namespace Go.Proofs.YtnggkkdcddpjlaaGreatDoor
open Go.RowKit
set_option maxRecDepth 100000
set_option linter.unusedVariables false
set_option linter.unusedSimpArgs false
/-- The name "x". -/
def xN : ByteArray := ⟨#[120]⟩
theorem u176 : Tryz.prog.underlying 176 = some (.map 187 189) := by kernel_rfl
theorem u187 : Tryz.prog.underlying 187 = some .string := by kernel_rfl
theorem z189 (w : World) : (zeroValue 189).run Tryz.prog w = .ok (.pointer none) w := by kernel_rfl
/-- The map of the flag set: x to its flag. -/
def xMap (fb : Nat) : Obj := mobj [(xN, .pointer (some ⟨fb, 0, none⟩))]
theorem lk_x (w : World) (mb fb : Nat) (h : w.heap[mb]? = some (xMap fb)) : (Instr.lookup 176 (.map (some mb)) (.string xN) false).run Tryz.prog w = .ok (.pointer (some ⟨fb, 0, none⟩)) w := by
  rw [run_lk u176 u187 (.pointer none) z189 w mb _ xN h]
  rfl
theorem lkOk_x (w : World) (mb fb : Nat) (h : w.heap[mb]? = some (xMap fb)) : (Instr.lookup 176 (.map (some mb)) (.string xN) true).run Tryz.prog w = .ok (.tuple #[.pointer (some ⟨fb, 0, none⟩), .bool true]) w := by
  rw [run_lkOk u176 u187 (.pointer none) z189 w mb _ xN h]
  rfl
theorem nfn_run (w : World) (b : Nat) (hn : w.cell? ⟨b, 16, none⟩ = some .nilFunc) : Calls Tryz.prog 170 #[.pointer (some ⟨b, 0, none⟩)] w fun e w' => e = .returned (.func (.func 193) #[] #[]) ∧ w' = w := by
  have hq : ∀ w, (binOp .neq 179 .nilFunc .nilFunc).run Tryz.prog w = .ok (.bool false) w := fun w => by kernel_rfl
  go_enter Tryz.func170, Tryz.ntmps170
  go_wp2
  go_ret
  exact ⟨rfl, rfl⟩
theorem nid_run (w : World) (p : Value) (n : ByteArray) : Calls Tryz.prog 193 #[p, .string n] w fun e w' => e = .returned (.string n) ∧ w' = w := by
  go_enter Tryz.func193, Tryz.ntmps193
  go_wp2
  go_ret
  exact ⟨rfl, rfl⟩
theorem norm_run (w : World) (b : Nat) (hn : w.cell? ⟨b, 16, none⟩ = some .nilFunc) (n : ByteArray) : Calls Tryz.prog 131 #[.pointer (some ⟨b, 0, none⟩), .string n] w fun e w' => e = .returned (.string n) ∧ w' = w := by
  go_enter Tryz.func131, Tryz.ntmps131
  go_wp2_with (first | (go_at_call 170; refine (nfn_run _ b hn).mono ?_; rintro r w1 ⟨rfl, rfl⟩) | (go_at_call 193; refine (nid_run _ _ _).mono ?_; rintro r w1 ⟨rfl, rfl⟩))
  go_ret
  exact ⟨rfl, rfl⟩
/-- What a world holds of a flag set with the flag x, and of its value. -/
structure Flagged (w : World) (tp : TypeId) (b mb fb vb : Nat) (ch : Bool) : Prop where
  lt : b < w.heap.size ∧ mb < w.heap.size ∧ fb < w.heap.size ∧ vb < w.heap.size
  ne : b ≠ mb ∧ b ≠ fb ∧ b ≠ vb ∧ mb ≠ fb ∧ mb ≠ vb ∧ fb ≠ vb
  fm : w.cell? ⟨b, 8, none⟩ = some (.map (some mb))
  nf : w.cell? ⟨b, 16, none⟩ = some .nilFunc
  mp : w.heap[mb]? = some (xMap fb)
  vl : w.cell? ⟨fb, 3, none⟩ = some (.iface tp (.pointer (some ⟨vb, 0, none⟩)))
  cg : w.cell? ⟨fb, 5, none⟩ = some (.bool ch)
  zb : ∀ k, w.frozen? ⟨b, k, none⟩ = false
  zf : ∀ k, w.frozen? ⟨fb, k, none⟩ = false
  zv : w.frozen? ⟨vb, 0, none⟩ = false
  ac : ch = false → w.cell? ⟨b, 5, none⟩ = some (.map none) ∧ w.cell? ⟨b, 6, none⟩ = some (.slice none 0 0)
theorem Flagged.val {w w' : World} {tp : TypeId} {b mb fb vb : Nat} {ch : Bool} (h : Flagged w tp b mb fb vb ch) (hg : w.grownBy w' (some vb)) (hz : w'.frozen? ⟨vb, 0, none⟩ = false) : Flagged w' tp b mb fb vb ch := by
  obtain ⟨⟨l1, l2, l3, l4⟩, ⟨n1, n2, n3, n4, n5, n6⟩, h1, h2, h3, h4, h5, h6, h7, h8, h9⟩ := h
  have cb : ∀ k, w'.cell? ⟨b, k, none⟩ = w.cell? ⟨b, k, none⟩ := fun k => World.cell?_of_block (hg.block b l1 (fun e => n3 (Option.some.inj e)))
  have cf : ∀ k, w'.cell? ⟨fb, k, none⟩ = w.cell? ⟨fb, k, none⟩ := fun k => World.cell?_of_block (hg.block fb l3 (fun e => n6 (Option.some.inj e)))
  have zb : ∀ k, w'.frozen? ⟨b, k, none⟩ = w.frozen? ⟨b, k, none⟩ := fun k => World.frozen?_of_block (hg.block b l1 (fun e => n3 (Option.some.inj e)))
  have zf : ∀ k, w'.frozen? ⟨fb, k, none⟩ = w.frozen? ⟨fb, k, none⟩ := fun k => World.frozen?_of_block (hg.block fb l3 (fun e => n6 (Option.some.inj e)))
  have hs := hg.size
  exact ⟨⟨by omega, by omega, by omega, by omega⟩, ⟨n1, n2, n3, n4, n5, n6⟩, (cb 8).trans h1, (cb 16).trans h2, (hg.block mb l2 (fun e => n5 (Option.some.inj e))).trans h3, (cf 3).trans h4, (cf 5).trans h5, fun k => (zb k).trans (h6 k), fun k => (zf k).trans (h7 k), hz, fun hc => ⟨(cb 5).trans (h9 hc).1, (cb 6).trans (h9 hc).2⟩⟩
theorem Flagged.on {w w' : World} {tp : TypeId} {b mb fb vb : Nat} {ch : Bool} (h : Flagged w tp b mb fb vb ch) (hb : Below w.heap.size w w') : Flagged w' tp b mb fb vb ch :=
  h.val ⟨hb.os, hb.tape, hb.output, hb.size, fun k hk _ => hb.block k hk⟩ ((hb.frozen (p := ⟨vb, 0, none⟩) h.lt.2.2.2).trans h.zv)
theorem look_run (w : World) (tp : TypeId) (b mb fb vb : Nat) (ch : Bool) (h : Flagged w tp b mb fb vb ch) : Calls Tryz.prog 192 #[.pointer (some ⟨b, 0, none⟩), .string xN] w fun e w' => e = .returned (.pointer (some ⟨fb, 0, none⟩)) ∧ w' = w := by
  have h1 := h.fm
  have h2 := lk_x w mb fb h.mp
  clear h
  go_enter Tryz.func192, Tryz.ntmps192
  go_wp2
  go_ret
  exact ⟨rfl, rfl⟩
theorem Look_run (w : World) (tp : TypeId) (b mb fb vb : Nat) (ch : Bool) (h : Flagged w tp b mb fb vb ch) : Calls Tryz.prog 169 #[.pointer (some ⟨b, 0, none⟩), .string xN] w fun e w' => e = .returned (.pointer (some ⟨fb, 0, none⟩)) ∧ w' = w := by
  have HN := Lib.hid (fun n => norm_run w b h.nf n)
  have HL := Lib.hid (look_run w tp b mb fb vb ch h)
  clear h
  go_enter Tryz.func169, Tryz.ntmps169
  go_wp2_with (first | (go_at_call 131; refine (HN.out _).mono ?_; rintro r w1 ⟨rfl, rfl⟩) | (go_at_call 192; refine HL.out.mono ?_; rintro r w1 ⟨rfl, rfl⟩))
  go_ret
  exact ⟨rfl, rfl⟩
end Go.Proofs.YtnggkkdcddpjlaaGreatDoor
