/- internal/strconv.atof32. -/
import Derived.Test.YtnggkkdcddpjlaaGreatDoorZ18
import Derived.Test.YtnggkkdcddpjlaaGreatDoorZ25
import Derived.Test.YtnggkkdcddpjlaaGreatDoorZ28
import Derived.Test.YtnggkkdcddpjlaaGreatDoorZ30
namespace Go.Proofs.YtnggkkdcddpjlaaGreatDoor
open Go.RowKit
set_option maxRecDepth 100000
set_option linter.unusedVariables false
set_option linter.unusedSimpArgs false
theorem FPow32.keep {tab : Nat → Nat} {w w' : World} (h : FPow32 tab w) (hb : Below w.heap.size w w') : FPow32 tab w' := by
  obtain ⟨g, o, h2, h3, h4, h5⟩ := h
  have h11 : 11 < w.heap.size := by omega
  exact ⟨g, o, Nat.lt_of_lt_of_le h2 hb.size, Nat.lt_of_lt_of_le h3 hb.size, (hb.cell (p := ⟨11, 0, none⟩) h11).trans h4, fun i hi => (hb.cell (p := ⟨g, o + i, none⟩) h3).trans (h5 i hi)⟩
/-- What a world holds of the variables that ParseFloat reads at 32 bits. -/
structure PW32 (w : World) : Prop where
  pow : PowAt w
  fp : FPow32 fpTab32 w
  flt : FltAt w 5 23 8 (-127)
  two : Two w
  flow : Flow w.heap.size w
  opt : w.cell? ⟨3, 0, none⟩ = some (.bool true)
  big : 14 ≤ w.heap.size
theorem PW32.on {w w' : World} (h : PW32 w) (hb : Below w.heap.size w w') : PW32 w' := by
  have h14 := h.big
  have h3 : 3 < w.heap.size := by omega
  exact ⟨h.pow.keep hb (by omega), h.fp.keep hb, h.flt.keep hb (by omega), h.two.keep hb (by omega), (h.flow.keep hb).mono hb.size, (hb.cell (p := ⟨3, 0, none⟩) h3).trans h.opt, Nat.le_trans h14 hb.size⟩
theorem bool2u32 (b : Bool) (w : World) : Calls Tryz.prog 242 #[.bool b] w fun e w' => e = .returned (.int .u32 (b2u b)) ∧ w' = w := by
  cases b
  all_goals
    go_enter Tryz.func242, Tryz.ntmps242
    go_wp2
    go_ret
    exact ⟨rfl, rfl⟩
def PfRun32 (d p sg : Int) (f : Nat) (er : Bool) : Prop := ∀ w, PowAt w → 8 ≤ w.heap.size → Calls Tryz.prog 245 #[.int .u64 d, .int .i64 p, .int .u32 sg] w fun r w' => r = .returned (.tuple #[.float .f32 f, erV er]) ∧ Below w.heap.size w w'
/-- A float of 32 bits that is told: the word, or some nan. -/
def Is32 (o : Option Nat) (f : Nat) : Prop := match o with
  | some y => f = y
  | none => f < 4294967296 ∧ ¬ Num32 f
def AtPost32 (w : World) (o : Option Nat) (n k : Nat) (e : Ending) (w' : World) : Prop := ∃ f, Is32 o f ∧ e = .returned (.tuple #[.float .f32 f, .int .i64 n, er3 k]) ∧ Below w.heap.size w w'
def sgn32 (ng : Bool) : Int := if ng = true then 2147483648 else 0
/-- float32(x) of a float64 that narrows well, or of a nan. -/
def Narrow (f : Nat) (o : Option Nat) : Prop := match o with
  | some y => floatToFloatBits .f64 f .f32 = some y
  | none => ¬ Num64 f
theorem conv_narrow (f : Nat) (o : Option Nat) (h : Narrow f o) : ∃ (cv : World → Nat) (cd : Nat), (∀ w, (convert 25 66 (.float .f64 f)).run Tryz.prog w = .ok (.float .f32 (cv w)) (w.drewN cd)) ∧ ∀ w, Is32 o (cv w) := by
  cases o with
  | some y => exact ⟨fun _ => y, 0, fun w => run_convert_float_float (P := Tryz.prog) w 25 66 .f64 .f32 f y (by rw [Tryz.underlying25]; rfl) Tryz.underlying66 h, fun w => rfl⟩
  | none =>
    obtain ⟨nn, hnn⟩ := conv_nan 25 66 .f64 .f32 f (by rw [Tryz.underlying25]; rfl) Tryz.underlying66 (by decide) (nan64 h)
    exact ⟨nn, 1, fun w => (hnn w).1, fun w => (hnn w).2⟩
/-- What a word of 32 bits is told as. -/
def told32w (v : Nat) : Option Nat := if v % 2147483648 ≤ 2139095040 then some v else none
theorem wide_told {v f : Nat} (hv : v < 4294967296) (h : Wide v f) : Narrow f (told32w v) := by
  obtain ⟨h0, h1, h2⟩ := h
  unfold told32w
  split
  · rename_i hn
    obtain ⟨g, g1, g2, g3, g4⟩ := wid_nar v hv hn
    obtain ⟨a, _⟩ := h1 hn
    rw [g3] at a
    injection a with a
    show floatToFloatBits .f64 f .f32 = some v
    rw [← a]
    exact g4
  · rename_i hn
    exact h2 hn
set_option maxHeartbeats 1000000 in
theorem at32_special (s : ByteArray) (hs : (s.size : Int) ≤ 1000000) (f0 n0 : Nat) (hSp : SpRun s f0 n0 true) (o : Option Nat) (ho : Narrow f0 o) (w : World) (hw : PW32 w) : Calls Tryz.prog 217 #[.string s] w (AtPost32 w o n0 0) := by
  obtain ⟨cv, cd, hcv, hcw⟩ := conv_narrow f0 o ho
  obtain ⟨Q, hQ⟩ : ∃ Q, Q = AtPost32 w o n0 0 := ⟨_, rfl⟩
  rw [← hQ]
  have HQ := Lib.hid hQ
  clear hQ
  have HSp := Lib.hid hSp
  have hop := hw.opt
  have HW := Lib.hid hw
  have HCW := Lib.hid hcw
  clear hSp hw ho hcw
  go_enter Tryz.func217, Tryz.ntmps217
  go_wp2_with (first | (go_at_call 239; refine (HSp.out _).mono ?_; rintro r w1 ⟨rfl, rfl⟩))
  all_goals go_ret3
  all_goals rw [HQ.out]
  all_goals exact ⟨_, HCW.out _, rfl, below_drewN _ _⟩
set_option maxHeartbeats 4000000 in
theorem at32_slow (s : ByteArray) (hs : (s.size : Int) ≤ 1000000) (f0 n0 : Nat) (hSp : SpRun s f0 n0 false) (m p : Int) (ng : Bool) (n : Nat) (hRf : RfRun s m p ng true false n true) (hn : n ≤ s.size)
    (hm0 : 0 < m) (hm1 : m < 18446744073709551616) (hp0 : -70 ≤ p) (hp1 : p ≤ 40) (f1 f2 : Nat) (e1 e2 : Bool) (h1 : PfRun32 m p (sgn32 ng) f1 e1) (h2 : PfRun32 (IntKind.u64.wrap (m + 1)) p (sgn32 ng) f2 e2) (hne : ((FloatKind.f32.format.order f1 f2) == some Ordering.eq) = false)
    (ok : Bool) (y : Dec) (hSet : ∀ (B b : Nat) (w : World), B ≤ b → DecAt w b ⟨fun _ => 0, 0, 0, false, false⟩ → Calls Tryz.prog 246 #[.pointer (some ⟨b, 0, none⟩), .string (s.extract 0 n)] w (SetPost B b w ok y))
    (v : Nat) (vv : Nat) (hvv : (v : Int) % 4294967296 = vv) (o : Bool) (hFb : ok = true → ∀ (B b : Nat) (w : World), B ≤ b → 5 < B → FltAt w 5 23 8 (-127) → Flow B w → DecAt w b y → Calls Tryz.prog 247 #[.pointer (some ⟨b, 0, none⟩), .pointer (some ⟨5, 0, none⟩)] w (FbPost B w v o))
    (w : World) (hw : PW32 w) : Calls Tryz.prog 217 #[.string s] w (AtPost32 w (some (if ok = true then vv else 0)) n (if ok = true then (if o = true then 1 else 0) else 2)) := by
  have HVV := Lib.hid hvv
  clear hvv
  have HSp := Lib.hid hSp
  have HRf := Lib.hid hRf
  have H1 := Lib.hid h1
  have H2 := Lib.hid h2
  have HNe := Lib.hid hne
  have HSet := Lib.hid hSet
  have HFb := Lib.hid hFb
  have HW := Lib.hid hw
  have hop := hw.opt
  have hmz : (m == 0) = false := by simp; omega
  clear hSp hRf h1 h2 hSet hFb hw
  obtain ⟨Q, hQ⟩ : ∃ Q, Q = AtPost32 w (some (if ok = true then vv else 0)) n (if ok = true then (if o = true then 1 else 0) else 2) := ⟨_, rfl⟩
  rw [← hQ]
  have HQ := Lib.hid hQ
  clear hQ
  obtain ⟨S, hS⟩ : ∃ S, S = sgn32 ng := ⟨_, rfl⟩
  rw [← hS] at H1 H2
  have hSs : b2u ng * 2147483648 % 4294967296 = S := by rw [hS]; cases ng <;> decide
  have hnn : (n : Int) ≤ s.size := by omega
  have hn0 : (0 : Int) ≤ n := by omega
  clear hS
  go_enter Tryz.func217, Tryz.ntmps217
  go_wp2_with (first
    | (go_at_call 239; refine (HSp.out _).mono ?_; rintro r w1 ⟨rfl, rfl⟩)
    | (go_at_call 240; refine (HRf.out _).mono ?_; rintro r w1 ⟨rfl, rfl⟩)
    | (go_at_call 242; refine (bool2u32 _ _).mono ?_; rintro r w1 ⟨rfl, rfl⟩))
  refine (H1.out _ HW.out.pow (by have := HW.out.big; omega)).mono ?_
  rintro r w2 ⟨rfl, hb2⟩
  have HB2 := Lib.hid hb2
  have HW2 := Lib.hid (HW.out.on hb2)
  clear hb2
  go_wp2_with fail
  refine (H2.out _ HW2.out.pow (by have := HW2.out.big; omega)).mono ?_
  rintro r w3 ⟨rfl, hb3⟩
  have HB3 := Lib.hid (belowOn HB2.out hb3)
  have HW3 := Lib.hid (HW2.out.on hb3)
  clear hb3 hop
  have hne := HNe.out
  go_wp2_with fail
  have HD := Lib.hid (dec_new w3)
  have hsz3 : w1.heap.size ≤ w3.heap.size := HB3.out.size
  have HBA := Lib.hid (HB3.out.trans (Below.mono (below_alloc w3 (.cells Tryz.zeroCells301 301)) hsz3))
  refine (HSet.out w1.heap.size w3.heap.size _ hsz3 HD.out).mono ?_
  rintro r w5 ⟨rfl, h5, h6⟩
  have HB5 := Lib.hid (HBA.out.trans h5)
  have H6 := Lib.hid h6
  clear h5 h6
  cases ok
  · go_wp2_with fail
    go_ret3
    rw [HQ.out]
    exact ⟨_, rfl, rfl, HB5.out⟩
  · have hbig := HW.out.big
    have HF6 := Lib.hid (HFb.out rfl w1.heap.size w3.heap.size w5 hsz3 (by omega) (HW.out.flt.keep HB5.out (by omega)) (HW.out.flow.keep HB5.out) (H6.out rfl))
    have hfb := fun w => frombits32 vv w
    have hvv2 := HVV.out
    cases o
    all_goals
      go_wp2_with (go_at_call 247; refine HF6.out.mono ?_; rintro r w6 ⟨rfl, h7⟩)
      go_ret3
      rw [HQ.out]
      exact ⟨_, rfl, rfl, HB5.out.trans h7⟩
set_option maxHeartbeats 1000000 in
theorem at32_bad (s : ByteArray) (hs : (s.size : Int) ≤ 1000000) (f0 n0 : Nat) (hSp : SpRun s f0 n0 false) (m p : Int) (ng tr hx : Bool) (n : Nat) (hRf : RfRun s m p ng tr hx n false) (w : World) (hw : PW32 w) : Calls Tryz.prog 217 #[.string s] w (AtPost32 w (some 0) n 2) := by
  obtain ⟨Q, hQ⟩ : ∃ Q, Q = AtPost32 w (some 0) n 2 := ⟨_, rfl⟩
  rw [← hQ]
  have HQ := Lib.hid hQ
  clear hQ
  have HSp := Lib.hid hSp
  have hop := hw.opt
  have HW := Lib.hid hw
  clear hSp hw
  have HRf := Lib.hid hRf
  clear hRf
  go_enter Tryz.func217, Tryz.ntmps217
  go_wp2_with (first | (go_at_call 239; refine (HSp.out _).mono ?_; rintro r w1 ⟨rfl, rfl⟩) | (go_at_call 240; refine (HRf.out _).mono ?_; rintro r w1 ⟨rfl, rfl⟩))
  all_goals go_ret3
  all_goals rw [HQ.out]
  all_goals exact ⟨_, rfl, rfl, Below.refl _ _⟩
set_option maxHeartbeats 1000000 in
theorem at32_hex (s : ByteArray) (hs : (s.size : Int) ≤ 1000000) (f0 n0 : Nat) (hSp : SpRun s f0 n0 false) (m p : Int) (ng tr hx : Bool) (n : Nat) (hRf : RfRun s m p ng tr true n true) (hn : n ≤ s.size) (v : Nat) (hv : v < 4294967296) (eh : Bool) (hHex : ∀ (s : ByteArray) (w : World), FltAt w 5 23 8 (-127) → Two w → Calls Tryz.prog 241 #[.string s, .pointer (some ⟨5, 0, none⟩), .int .u64 m, .int .i64 p, .bool ng, .bool tr] w fun e w' => ∃ f, Wide v f ∧ e = .returned (.tuple #[.float .f64 f, erV eh]) ∧ ∃ k, w' = w.drewN k) (w : World) (hw : PW32 w) : Calls Tryz.prog 217 #[.string s] w (AtPost32 w (told32w v) n (if eh = true then 1 else 0)) := by
  obtain ⟨Q, hQ⟩ : ∃ Q, Q = AtPost32 w (told32w v) n (if eh = true then 1 else 0) := ⟨_, rfl⟩
  rw [← hQ]
  have HQ := Lib.hid hQ
  clear hQ
  have HSp := Lib.hid hSp
  have hop := hw.opt
  have HW := Lib.hid hw
  clear hSp hw
  have HRf := Lib.hid hRf
  clear hRf
  have HH := Lib.hid hHex
  have HV := Lib.hid hv
  have hnn : (n : Int) ≤ s.size := by omega
  have hn0 : (0 : Int) ≤ n := by omega
  clear hHex hv
  have he : Hid (erV eh = er3 (if eh = true then 1 else 0)) := Lib.hid (by cases eh <;> rfl)
  go_enter Tryz.func217, Tryz.ntmps217
  go_wp2_with (first | (go_at_call 239; refine (HSp.out _).mono ?_; rintro r w1 ⟨rfl, rfl⟩) | (go_at_call 240; refine (HRf.out _).mono ?_; rintro r w1 ⟨rfl, rfl⟩) | (go_at_call 241; refine (HH.out _ _ HW.out.flt HW.out.two).mono ?_; rintro r w2 ⟨f, hwd, rfl, k, rfl⟩; obtain ⟨cv, cd, hcv, hcw⟩ := conv_narrow f _ (wide_told HV.out hwd); have HCW := Lib.hid hcw; clear hcw hwd))
  all_goals go_ret3
  all_goals rw [HQ.out]
  all_goals exact ⟨_, HCW.out _, by rw [← he.out]; rfl, by first | exact below_drewN _ _ | (simp only [World.drewN_drewN]; exact below_drewN _ _) | exact (below_drewN _ _).trans (below_drewN _ _)⟩
set_option maxHeartbeats 1000000 in
theorem at32_zero (s : ByteArray) (hs : (s.size : Int) ≤ 1000000) (f0 n0 : Nat) (hSp : SpRun s f0 n0 false) (m p : Int) (ng tr hx : Bool) (n : Nat) (hRf : RfRun s 0 p ng tr false n true)  (v : Nat) (hv : bits .or .u32 (sgn32 ng) 0 = v) (w : World) (hw : PW32 w) : Calls Tryz.prog 217 #[.string s] w (AtPost32 w (some v) n 0) := by
  obtain ⟨Q, hQ⟩ : ∃ Q, Q = AtPost32 w (some v) n 0 := ⟨_, rfl⟩
  rw [← hQ]
  have HQ := Lib.hid hQ
  clear hQ
  have HSp := Lib.hid hSp
  have hop := hw.opt
  have HW := Lib.hid hw
  obtain ⟨S, hS⟩ : ∃ S, S = sgn32 ng := ⟨_, rfl⟩
  rw [← hS] at hv
  have hSs : b2u ng * 2147483648 % 4294967296 = S := by rw [hS]; cases ng <;> decide
  clear hSp hw hS
  have HRf := Lib.hid hRf
  clear hRf
  have hfb := fun w => frombits32 v w
  go_enter Tryz.func217, Tryz.ntmps217
  go_wp2_with (first | (go_at_call 239; refine (HSp.out _).mono ?_; rintro r w1 ⟨rfl, rfl⟩) | (go_at_call 240; refine (HRf.out _).mono ?_; rintro r w1 ⟨rfl, rfl⟩) | (go_at_call 242; refine (bool2u32 _ _).mono ?_; rintro r w1 ⟨rfl, rfl⟩))
  all_goals go_ret3
  all_goals rw [HQ.out]
  all_goals exact ⟨_, rfl, rfl, Below.refl _ _⟩
set_option maxHeartbeats 1000000 in
theorem at32_over (s : ByteArray) (hs : (s.size : Int) ≤ 1000000) (f0 n0 : Nat) (hSp : SpRun s f0 n0 false) (m p : Int) (ng tr hx : Bool) (n : Nat) (hRf : RfRun s m p ng tr false n true) (hm0 : 0 < m) (hp : 40 < p) (v : Nat) (hv : bits .or .u32 (sgn32 ng) 2139095040 = v) (w : World) (hw : PW32 w) : Calls Tryz.prog 217 #[.string s] w (AtPost32 w (some v) n 1) := by
  obtain ⟨Q, hQ⟩ : ∃ Q, Q = AtPost32 w (some v) n 1 := ⟨_, rfl⟩
  rw [← hQ]
  have HQ := Lib.hid hQ
  clear hQ
  have HSp := Lib.hid hSp
  have hop := hw.opt
  have HW := Lib.hid hw
  obtain ⟨S, hS⟩ : ∃ S, S = sgn32 ng := ⟨_, rfl⟩
  rw [← hS] at hv
  have hSs : b2u ng * 2147483648 % 4294967296 = S := by rw [hS]; cases ng <;> decide
  clear hSp hw hS
  have HRf := Lib.hid hRf
  clear hRf
  have hfb := fun w => frombits32 v w
  have hmz : (m == 0) = false := by simp; omega
  go_enter Tryz.func217, Tryz.ntmps217
  go_wp2_with (first | (go_at_call 239; refine (HSp.out _).mono ?_; rintro r w1 ⟨rfl, rfl⟩) | (go_at_call 240; refine (HRf.out _).mono ?_; rintro r w1 ⟨rfl, rfl⟩) | (go_at_call 242; refine (bool2u32 _ _).mono ?_; rintro r w1 ⟨rfl, rfl⟩))
  all_goals go_ret3
  all_goals rw [HQ.out]
  all_goals exact ⟨_, rfl, rfl, Below.refl _ _⟩
set_option maxHeartbeats 1000000 in
theorem at32_under (s : ByteArray) (hs : (s.size : Int) ≤ 1000000) (f0 n0 : Nat) (hSp : SpRun s f0 n0 false) (m p : Int) (ng tr hx : Bool) (n : Nat) (hRf : RfRun s m p ng tr false n true) (hm0 : 0 < m) (hp : p < -70) (v : Nat) (hv : bits .or .u32 (sgn32 ng) 0 = v) (w : World) (hw : PW32 w) : Calls Tryz.prog 217 #[.string s] w (AtPost32 w (some v) n 0) := by
  obtain ⟨Q, hQ⟩ : ∃ Q, Q = AtPost32 w (some v) n 0 := ⟨_, rfl⟩
  rw [← hQ]
  have HQ := Lib.hid hQ
  clear hQ
  have HSp := Lib.hid hSp
  have hop := hw.opt
  have HW := Lib.hid hw
  obtain ⟨S, hS⟩ : ∃ S, S = sgn32 ng := ⟨_, rfl⟩
  rw [← hS] at hv
  have hSs : b2u ng * 2147483648 % 4294967296 = S := by rw [hS]; cases ng <;> decide
  clear hSp hw hS
  have HRf := Lib.hid hRf
  clear hRf
  have hfb := fun w => frombits32 v w
  have hmz : (m == 0) = false := by simp; omega
  have hp3 : ¬ (40 : Int) < p := by omega
  go_enter Tryz.func217, Tryz.ntmps217
  go_wp2_with (first | (go_at_call 239; refine (HSp.out _).mono ?_; rintro r w1 ⟨rfl, rfl⟩) | (go_at_call 240; refine (HRf.out _).mono ?_; rintro r w1 ⟨rfl, rfl⟩) | (go_at_call 242; refine (bool2u32 _ _).mono ?_; rintro r w1 ⟨rfl, rfl⟩))
  all_goals go_ret3
  all_goals rw [HQ.out]
  all_goals exact ⟨_, rfl, rfl, Below.refl _ _⟩
set_option maxHeartbeats 1000000 in
theorem at32_exact (s : ByteArray) (hs : (s.size : Int) ≤ 1000000) (f0 n0 : Nat) (hSp : SpRun s f0 n0 false) (m p : Int) (ng tr hx : Bool) (n : Nat) (hRf : RfRun s m p ng false false n true) (hm0 : 0 < m) (hp0 : -70 ≤ p) (hp1 : p ≤ 40) (fx : Nat) (okx : Bool) (hEx : ∀ w, FPow32 fpTab32 w → Calls Tryz.prog 244 #[.int .u64 m, .int .i64 p, .bool ng] w fun r w' => r = .returned (.tuple #[.float .f32 fx, .bool true]) ∧ w' = w) (w : World) (hw : PW32 w) : Calls Tryz.prog 217 #[.string s] w (AtPost32 w (some fx) n 0) := by
  obtain ⟨Q, hQ⟩ : ∃ Q, Q = AtPost32 w (some fx) n 0 := ⟨_, rfl⟩
  rw [← hQ]
  have HQ := Lib.hid hQ
  clear hQ
  have HSp := Lib.hid hSp
  have hop := hw.opt
  have HW := Lib.hid hw
  clear hSp hw
  have HRf := Lib.hid hRf
  clear hRf
  have hmz : (m == 0) = false := by simp; omega
  have HEx := Lib.hid hEx
  clear hEx
  go_enter Tryz.func217, Tryz.ntmps217
  go_wp2_with (first | (go_at_call 239; refine (HSp.out _).mono ?_; rintro r w1 ⟨rfl, rfl⟩) | (go_at_call 240; refine (HRf.out _).mono ?_; rintro r w1 ⟨rfl, rfl⟩) | (go_at_call 242; refine (bool2u32 _ _).mono ?_; rintro r w1 ⟨rfl, rfl⟩) | (go_at_call 244; refine (HEx.out _ HW.out.fp).mono ?_; rintro r w1 ⟨rfl, rfl⟩))
  all_goals go_ret3
  all_goals rw [HQ.out]
  all_goals exact ⟨_, rfl, rfl, Below.refl _ _⟩
set_option maxHeartbeats 1000000 in
theorem at32_parse (s : ByteArray) (hs : (s.size : Int) ≤ 1000000) (f0 n0 : Nat) (hSp : SpRun s f0 n0 false) (m p : Int) (ng tr hx : Bool) (n : Nat) (hRf : RfRun s m p ng false false n true) (hm0 : 0 < m) (hp0 : -70 ≤ p) (hp1 : p ≤ 40) (fx : Nat) (okx : Bool) (hEx : ∀ w, FPow32 fpTab32 w → Calls Tryz.prog 244 #[.int .u64 m, .int .i64 p, .bool ng] w fun r w' => r = .returned (.tuple #[.float .f32 fx, .bool false]) ∧ w' = w) (f1 : Nat) (e1 : Bool) (h1 : PfRun32 m p (sgn32 ng) f1 e1) (w : World) (hw : PW32 w) : Calls Tryz.prog 217 #[.string s] w (AtPost32 w (some f1) n (if e1 = true then 1 else 0)) := by
  obtain ⟨Q, hQ⟩ : ∃ Q, Q = AtPost32 w (some f1) n (if e1 = true then 1 else 0) := ⟨_, rfl⟩
  rw [← hQ]
  have HQ := Lib.hid hQ
  clear hQ
  have HSp := Lib.hid hSp
  have hop := hw.opt
  have HW := Lib.hid hw
  clear hSp hw
  have HRf := Lib.hid hRf
  clear hRf
  have hmz : (m == 0) = false := by simp; omega
  have HEx := Lib.hid hEx
  clear hEx
  obtain ⟨S, hS⟩ : ∃ S, S = sgn32 ng := ⟨_, rfl⟩
  have hSs : b2u ng * 2147483648 % 4294967296 = S := by rw [hS]; cases ng <;> decide
  rw [← hS] at h1
  have H1 := Lib.hid h1
  clear h1 hS
  have he : Hid (erV e1 = er3 (if e1 = true then 1 else 0)) := Lib.hid (by cases e1 <;> rfl)
  go_enter Tryz.func217, Tryz.ntmps217
  go_wp2_with (first | (go_at_call 239; refine (HSp.out _).mono ?_; rintro r w1 ⟨rfl, rfl⟩) | (go_at_call 240; refine (HRf.out _).mono ?_; rintro r w1 ⟨rfl, rfl⟩) | (go_at_call 242; refine (bool2u32 _ _).mono ?_; rintro r w1 ⟨rfl, rfl⟩) | (go_at_call 244; refine (HEx.out _ HW.out.fp).mono ?_; rintro r w1 ⟨rfl, rfl⟩) | (go_at_call 245; refine (H1.out _ HW.out.pow (by have := HW.out.big; omega)).mono ?_; rintro r w2 ⟨rfl, hb2⟩; have HB2 := Lib.hid hb2; clear hb2))
  all_goals go_ret3
  all_goals rw [HQ.out]
  all_goals exact ⟨_, rfl, by rw [← he.out]; rfl, HB2.out⟩
set_option maxHeartbeats 1000000 in
theorem at32_same (s : ByteArray) (hs : (s.size : Int) ≤ 1000000) (f0 n0 : Nat) (hSp : SpRun s f0 n0 false) (m p : Int) (ng tr hx : Bool) (n : Nat) (hRf : RfRun s m p ng true false n true) (hm0 : 0 < m) (hp0 : -70 ≤ p) (hp1 : p ≤ 40) (hm1 : m < 18446744073709551616) (f1 f2 : Nat) (e1 e2 : Bool) (h1 : PfRun32 m p (sgn32 ng) f1 e1) (h2 : PfRun32 (IntKind.u64.wrap (m + 1)) p (sgn32 ng) f2 e2) (heq : ((FloatKind.f32.format.order f1 f2) == some Ordering.eq) = true) (w : World) (hw : PW32 w) : Calls Tryz.prog 217 #[.string s] w (AtPost32 w (some f1) n (if e1 = true then 1 else 0)) := by
  obtain ⟨Q, hQ⟩ : ∃ Q, Q = AtPost32 w (some f1) n (if e1 = true then 1 else 0) := ⟨_, rfl⟩
  rw [← hQ]
  have HQ := Lib.hid hQ
  clear hQ
  have HSp := Lib.hid hSp
  have hop := hw.opt
  have HW := Lib.hid hw
  clear hSp hw
  have HRf := Lib.hid hRf
  clear hRf
  have hmz : (m == 0) = false := by simp; omega
  obtain ⟨S, hS⟩ : ∃ S, S = sgn32 ng := ⟨_, rfl⟩
  have hSs : b2u ng * 2147483648 % 4294967296 = S := by rw [hS]; cases ng <;> decide
  rw [← hS] at h1 h2
  have H1 := Lib.hid h1
  have H2 := Lib.hid h2
  clear h1 h2 hS
  have he : Hid (erV e1 = er3 (if e1 = true then 1 else 0)) := Lib.hid (by cases e1 <;> rfl)
  go_enter Tryz.func217, Tryz.ntmps217
  go_wp2_with (first | (go_at_call 239; refine (HSp.out _).mono ?_; rintro r w1 ⟨rfl, rfl⟩) | (go_at_call 240; refine (HRf.out _).mono ?_; rintro r w1 ⟨rfl, rfl⟩) | (go_at_call 242; refine (bool2u32 _ _).mono ?_; rintro r w1 ⟨rfl, rfl⟩))
  refine (H1.out _ HW.out.pow (by have := HW.out.big; omega)).mono ?_
  rintro r w2 ⟨rfl, hb2⟩
  have HB2 := Lib.hid hb2
  have HW2 := Lib.hid (HW.out.on hb2)
  clear hb2
  go_wp2_with fail
  refine (H2.out _ HW2.out.pow (by have := HW2.out.big; omega)).mono ?_
  rintro r w3 ⟨rfl, hb3⟩
  have HB3 := Lib.hid (belowOn HB2.out hb3)
  clear hb3
  go_wp2_with fail
  all_goals go_ret3
  all_goals rw [HQ.out]
  all_goals exact ⟨_, rfl, by rw [← he.out]; rfl, HB3.out⟩
end Go.Proofs.YtnggkkdcddpjlaaGreatDoor
