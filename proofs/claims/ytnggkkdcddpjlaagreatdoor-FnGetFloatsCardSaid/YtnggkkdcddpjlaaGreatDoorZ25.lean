/- internal/strconv.atof64 and strconv.ParseFloat at 64 bits, case by case: what they answer where readFloat, special, atof64exact and parseFloat64 are told, under what a world holds of the listed variables (PW). -/
import Derived.Test.YtnggkkdcddpjlaaGreatDoorZ12
import Derived.Test.YtnggkkdcddpjlaaGreatDoorZ22
import Derived.Test.YtnggkkdcddpjlaaGreatDoorZ23
import Derived.Test.YtnggkkdcddpjlaaGreatDoorZ24
namespace Go.Proofs.YtnggkkdcddpjlaaGreatDoor
open Go.RowKit
set_option maxRecDepth 100000
set_option linter.unusedVariables false
set_option linter.unusedSimpArgs false
theorem FPow.keep {tab : Nat → Nat} {w w' : World} (h : FPow tab w) (hb : Below w.heap.size w w') : FPow tab w' := by
  obtain ⟨h1, g, o, h2, h3, h4, h5⟩ := h
  have h6 : 6 < w.heap.size := by omega
  have h13 : 13 < w.heap.size := by omega
  exact ⟨(hb.cell (p := ⟨6, 0, none⟩) h6).trans h1, g, o, Nat.lt_of_lt_of_le h2 hb.size, Nat.lt_of_lt_of_le h3 hb.size, (hb.cell (p := ⟨13, 0, none⟩) h13).trans h4, fun i hi => (hb.cell (p := ⟨g, o + i, none⟩) h3).trans (h5 i hi)⟩
theorem LeftRow.mono {B C : Nat} {w : World} {k D : Nat} {s : ByteArray} (h : LeftRow B w k D s) (hB : B ≤ C) : LeftRow C w k D s := by
  obtain ⟨h0, g, o, h1, h2⟩ := h
  exact ⟨by omega, g, o, by omega, h2⟩
theorem Flow.mono {B C : Nat} {w : World} (h : Flow B w) (hB : B ≤ C) : Flow C w := by
  obtain ⟨h0, ⟨g, o, h1, h2⟩, h4⟩ := h
  exact ⟨by omega, ⟨g, o, by omega, h2⟩, fun k hk => (h4 k hk).mono hB⟩
/-- What a world holds of the variables that ParseFloat reads. -/
structure PW (w : World) : Prop where
  pow : PowAt w
  fp : FPow fpTab w
  flt : FltAt w 6 52 11 (-1023)
  two : Two w
  flow : Flow w.heap.size w
  opt : w.cell? ⟨3, 0, none⟩ = some (.bool true)
  big : 14 ≤ w.heap.size
theorem PW.on {w w' : World} (h : PW w) (hb : Below w.heap.size w w') : PW w' := by
  have h14 := h.big
  have h3 : 3 < w.heap.size := by omega
  exact ⟨h.pow.keep hb (by omega), h.fp.keep hb, h.flt.keep hb (by omega), h.two.keep hb (by omega), (h.flow.keep hb).mono hb.size, (hb.cell (p := ⟨3, 0, none⟩) h3).trans h.opt, Nat.le_trans h14 hb.size⟩
def b2u (b : Bool) : Int := if b then 1 else 0
theorem bool2u (b : Bool) (w : World) : Calls Tryz.prog 248 #[.bool b] w fun e w' => e = .returned (.int .u64 (b2u b)) ∧ w' = w := by
  cases b
  all_goals
    go_enter Tryz.func248, Tryz.ntmps248
    go_wp2
    go_ret
    exact ⟨rfl, rfl⟩
/-- A new decimal's cells. -/
def decZ : Array Value := (List.replicate 800 (Value.int .u8 0) ++ [Value.int .i64 0, Value.int .i64 0, Value.bool false, Value.bool false]).toArray
theorem zero301 : Tryz.zeroCells301 = decZ := by kernel_rfl
theorem dec_new (w : World) : DecAt (w.alloc (.cells Tryz.zeroCells301 301)) w.heap.size ⟨fun _ => 0, 0, 0, false, false⟩ := by
  rw [zero301]
  have hc : ∀ i, (w.alloc (.cells decZ 301)).cell? ⟨w.heap.size, i, none⟩ = decZ[i]? := fun i => World.cell?_alloc_at decZ 301 w.heap.size i rfl
  refine ⟨fun i hi => ?_, ?_, ?_, ?_, ?_, fun i => World.frozen?_alloc_at decZ 301 w.heap.size i rfl⟩
  · rw [hc]
    unfold decZ
    rw [List.getElem?_toArray, List.getElem?_append_left (by simpa using hi), List.getElem?_replicate, if_pos hi]
  all_goals
    rw [hc]
    rfl
def er3 (k : Nat) : Value := if k = 0 then .nilIface else .iface 257 (.int .i64 k)
/-- What special and readFloat answer, put plainly. -/
def SpRun (s : ByteArray) (f n : Nat) (ok : Bool) : Prop := ∀ w, Calls Tryz.prog 239 #[.string s] w fun e w' => e = .returned (.tuple #[.float .f64 f, .int .i64 n, .bool ok]) ∧ w' = w
def RfRun (s : ByteArray) (m p : Int) (ng tr hx : Bool) (n : Nat) (ok : Bool) : Prop := ∀ w, Calls Tryz.prog 240 #[.string s] w fun e w' => e = .returned (.tuple #[.int .u64 m, .int .i64 p, .bool ng, .bool tr, .bool hx, .int .i64 n, .bool ok]) ∧ w' = w
def PfRun (d p sg : Int) (f : Nat) (er : Bool) : Prop := ∀ w, PowAt w → 8 ≤ w.heap.size → Calls Tryz.prog 251 #[.int .u64 d, .int .i64 p, .int .u64 sg] w fun r w' => r = .returned (.tuple #[.float .f64 f, erV er]) ∧ Below w.heap.size w w'
def AtPost (w : World) (f n k : Nat) (e : Ending) (w' : World) : Prop := e = .returned (.tuple #[.float .f64 f, .int .i64 n, er3 k]) ∧ Below w.heap.size w w'
def sgn (ng : Bool) : Int := if ng = true then 9223372036854775808 else 0
set_option maxHeartbeats 4000000 in
theorem at_slow (s : ByteArray) (hs : (s.size : Int) ≤ 1000000) (f0 n0 : Nat) (hSp : SpRun s f0 n0 false) (m p : Int) (ng : Bool) (n : Nat) (hRf : RfRun s m p ng true false n true) (hn : n ≤ s.size)
    (hm0 : 0 < m) (hm1 : m < 18446744073709551616) (hp0 : -345 ≤ p) (hp1 : p ≤ 310) (f1 f2 : Nat) (e1 e2 : Bool) (h1 : PfRun m p (sgn ng) f1 e1) (h2 : PfRun (IntKind.u64.wrap (m + 1)) p (sgn ng) f2 e2) (hne : ((FloatKind.f64.format.order f1 f2) == some Ordering.eq) = false)
    (ok : Bool) (y : Dec) (hSet : ∀ (B b : Nat) (w : World), B ≤ b → DecAt w b ⟨fun _ => 0, 0, 0, false, false⟩ → Calls Tryz.prog 246 #[.pointer (some ⟨b, 0, none⟩), .string (s.extract 0 n)] w (SetPost B b w ok y))
    (v : Nat) (o : Bool) (hFb : ok = true → ∀ (B b : Nat) (w : World), B ≤ b → 6 < B → FltAt w 6 52 11 (-1023) → Flow B w → DecAt w b y → Calls Tryz.prog 247 #[.pointer (some ⟨b, 0, none⟩), .pointer (some ⟨6, 0, none⟩)] w (FbPost B w v o))
    (w : World) (hw : PW w) : Calls Tryz.prog 218 #[.string s] w (AtPost w (if ok = true then v else 0) n (if ok = true then (if o = true then 1 else 0) else 2)) := by
  have HSp := Lib.hid hSp
  have HRf := Lib.hid hRf
  have H1 := Lib.hid h1
  have H2 := Lib.hid h2
  have HNe := Lib.hid hne
  have HSet := Lib.hid hSet
  have HFb := Lib.hid hFb
  have HW := Lib.hid hw
  have hop := hw.opt
  have hmz : (m == 0) = false := by simp; omega
  clear hSp hRf h1 h2 hSet hFb hw
  obtain ⟨Q, hQ⟩ : ∃ Q, Q = AtPost w (if ok = true then v else 0) n (if ok = true then (if o = true then 1 else 0) else 2) := ⟨_, rfl⟩
  rw [← hQ]
  have HQ := Lib.hid hQ
  clear hQ
  obtain ⟨S, hS⟩ : ∃ S, S = sgn ng := ⟨_, rfl⟩
  rw [← hS] at H1 H2
  have hSs : IntKind.u64.wrap (b2u ng * 9223372036854775808) = S := by rw [hS]; cases ng <;> decide
  have hnn : (n : Int) ≤ s.size := by omega
  have hn0 : (0 : Int) ≤ n := by omega
  clear hS
  go_enter Tryz.func218, Tryz.ntmps218
  go_wp2_with (first
    | (go_at_call 239; refine (HSp.out _).mono ?_; rintro r w1 ⟨rfl, rfl⟩)
    | (go_at_call 240; refine (HRf.out _).mono ?_; rintro r w1 ⟨rfl, rfl⟩)
    | (go_at_call 248; refine (bool2u _ _).mono ?_; rintro r w1 ⟨rfl, rfl⟩))
  refine (H1.out _ HW.out.pow (by have := HW.out.big; omega)).mono ?_
  rintro r w2 ⟨rfl, hb2⟩
  have HB2 := Lib.hid hb2
  have HW2 := Lib.hid (HW.out.on hb2)
  clear hb2
  go_wp2_with fail
  refine (H2.out _ HW2.out.pow (by have := HW2.out.big; omega)).mono ?_
  rintro r w3 ⟨rfl, hb3⟩
  have HB3 := Lib.hid (belowOn HB2.out hb3)
  have HW3 := Lib.hid (HW2.out.on hb3)
  clear hb3 hop
  have hne := HNe.out
  go_wp2_with fail
  have HD := Lib.hid (dec_new w3)
  have hsz3 : w1.heap.size ≤ w3.heap.size := HB3.out.size
  have HBA := Lib.hid (HB3.out.trans (Below.mono (below_alloc w3 (.cells Tryz.zeroCells301 301)) hsz3))
  refine (HSet.out w1.heap.size w3.heap.size _ hsz3 HD.out).mono ?_
  rintro r w5 ⟨rfl, h5, h6⟩
  have HB5 := Lib.hid (HBA.out.trans h5)
  have H6 := Lib.hid h6
  clear h5 h6
  cases ok
  · go_wp2_with fail
    go_ret3
    rw [HQ.out]
    exact ⟨rfl, HB5.out⟩
  · have hbig := HW.out.big
    have HF6 := Lib.hid (HFb.out rfl w1.heap.size w3.heap.size w5 hsz3 (by omega) (HW.out.flt.keep HB5.out (by omega)) (HW.out.flow.keep HB5.out) (H6.out rfl))
    have hfb := fun w => frombits64 v w
    cases o
    all_goals
      go_wp2_with (go_at_call 247; refine HF6.out.mono ?_; rintro r w6 ⟨rfl, h7⟩)
      go_ret3
      rw [HQ.out]
      exact ⟨rfl, HB5.out.trans h7⟩
-- the other ways
set_option maxHeartbeats 1000000 in
theorem at_special (s : ByteArray) (hs : (s.size : Int) ≤ 1000000) (f0 n0 : Nat) (hSp : SpRun s f0 n0 true) (w : World) (hw : PW w) : Calls Tryz.prog 218 #[.string s] w (AtPost w f0 n0 0) := by
  obtain ⟨Q, hQ⟩ : ∃ Q, Q = AtPost w f0 n0 0 := ⟨_, rfl⟩
  rw [← hQ]
  have HQ := Lib.hid hQ
  clear hQ
  have HSp := Lib.hid hSp
  have hop := hw.opt
  have HW := Lib.hid hw
  clear hSp hw
  go_enter Tryz.func218, Tryz.ntmps218
  go_wp2_with (first | (go_at_call 239; refine (HSp.out _).mono ?_; rintro r w1 ⟨rfl, rfl⟩))
  all_goals go_ret3
  all_goals rw [HQ.out]
  all_goals exact ⟨rfl, Below.refl _ _⟩
set_option maxHeartbeats 1000000 in
theorem at_bad (s : ByteArray) (hs : (s.size : Int) ≤ 1000000) (f0 n0 : Nat) (hSp : SpRun s f0 n0 false) (m p : Int) (ng tr hx : Bool) (n : Nat) (hRf : RfRun s m p ng tr hx n false) (w : World) (hw : PW w) : Calls Tryz.prog 218 #[.string s] w (AtPost w 0 n 2) := by
  obtain ⟨Q, hQ⟩ : ∃ Q, Q = AtPost w 0 n 2 := ⟨_, rfl⟩
  rw [← hQ]
  have HQ := Lib.hid hQ
  clear hQ
  have HSp := Lib.hid hSp
  have hop := hw.opt
  have HW := Lib.hid hw
  clear hSp hw
  have HRf := Lib.hid hRf
  clear hRf
  go_enter Tryz.func218, Tryz.ntmps218
  go_wp2_with (first | (go_at_call 239; refine (HSp.out _).mono ?_; rintro r w1 ⟨rfl, rfl⟩) | (go_at_call 240; refine (HRf.out _).mono ?_; rintro r w1 ⟨rfl, rfl⟩))
  all_goals go_ret3
  all_goals rw [HQ.out]
  all_goals exact ⟨rfl, Below.refl _ _⟩
set_option maxHeartbeats 1000000 in
theorem at_hex (s : ByteArray) (hs : (s.size : Int) ≤ 1000000) (f0 n0 : Nat) (hSp : SpRun s f0 n0 false) (m p : Int) (ng tr hx : Bool) (n : Nat) (hRf : RfRun s m p ng tr true n true) (hn : n ≤ s.size) (fh : Nat) (eh : Bool) (hHex : ∀ (s : ByteArray) (w : World), FltAt w 6 52 11 (-1023) → Two w → Calls Tryz.prog 241 #[.string s, .pointer (some ⟨6, 0, none⟩), .int .u64 m, .int .i64 p, .bool ng, .bool tr] w fun e w' => e = .returned (.tuple #[.float .f64 fh, erV eh]) ∧ ∃ k, w' = w.drewN k) (w : World) (hw : PW w) : Calls Tryz.prog 218 #[.string s] w (AtPost w fh n (if eh = true then 1 else 0)) := by
  obtain ⟨Q, hQ⟩ : ∃ Q, Q = AtPost w fh n (if eh = true then 1 else 0) := ⟨_, rfl⟩
  rw [← hQ]
  have HQ := Lib.hid hQ
  clear hQ
  have HSp := Lib.hid hSp
  have hop := hw.opt
  have HW := Lib.hid hw
  clear hSp hw
  have HRf := Lib.hid hRf
  clear hRf
  have HH := Lib.hid hHex
  have hnn : (n : Int) ≤ s.size := by omega
  have hn0 : (0 : Int) ≤ n := by omega
  clear hHex
  have he : Hid (erV eh = er3 (if eh = true then 1 else 0)) := Lib.hid (by cases eh <;> rfl)
  go_enter Tryz.func218, Tryz.ntmps218
  go_wp2_with (first | (go_at_call 239; refine (HSp.out _).mono ?_; rintro r w1 ⟨rfl, rfl⟩) | (go_at_call 240; refine (HRf.out _).mono ?_; rintro r w1 ⟨rfl, rfl⟩) | (go_at_call 241; refine (HH.out _ _ HW.out.flt HW.out.two).mono ?_; rintro r w2 ⟨rfl, k, rfl⟩))
  all_goals go_ret3
  all_goals rw [HQ.out]
  all_goals exact ⟨by rw [← he.out]; rfl, below_drewN _ _⟩
set_option maxHeartbeats 1000000 in
theorem at_zero (s : ByteArray) (hs : (s.size : Int) ≤ 1000000) (f0 n0 : Nat) (hSp : SpRun s f0 n0 false) (m p : Int) (ng tr hx : Bool) (n : Nat) (hRf : RfRun s 0 p ng tr false n true)  (v : Nat) (hv : bits .or .u64 (sgn ng) 0 = v) (w : World) (hw : PW w) : Calls Tryz.prog 218 #[.string s] w (AtPost w v n 0) := by
  obtain ⟨Q, hQ⟩ : ∃ Q, Q = AtPost w v n 0 := ⟨_, rfl⟩
  rw [← hQ]
  have HQ := Lib.hid hQ
  clear hQ
  have HSp := Lib.hid hSp
  have hop := hw.opt
  have HW := Lib.hid hw
  obtain ⟨S, hS⟩ : ∃ S, S = sgn ng := ⟨_, rfl⟩
  rw [← hS] at hv
  have hSs : IntKind.u64.wrap (b2u ng * 9223372036854775808) = S := by rw [hS]; cases ng <;> decide
  clear hSp hw hS
  have HRf := Lib.hid hRf
  clear hRf
  have hfb := fun w => frombits64 v w
  go_enter Tryz.func218, Tryz.ntmps218
  go_wp2_with (first | (go_at_call 239; refine (HSp.out _).mono ?_; rintro r w1 ⟨rfl, rfl⟩) | (go_at_call 240; refine (HRf.out _).mono ?_; rintro r w1 ⟨rfl, rfl⟩) | (go_at_call 248; refine (bool2u _ _).mono ?_; rintro r w1 ⟨rfl, rfl⟩))
  all_goals go_ret3
  all_goals rw [HQ.out]
  all_goals exact ⟨rfl, Below.refl _ _⟩
set_option maxHeartbeats 1000000 in
theorem at_over (s : ByteArray) (hs : (s.size : Int) ≤ 1000000) (f0 n0 : Nat) (hSp : SpRun s f0 n0 false) (m p : Int) (ng tr hx : Bool) (n : Nat) (hRf : RfRun s m p ng tr false n true) (hm0 : 0 < m) (hp : 310 < p) (v : Nat) (hv : bits .or .u64 (sgn ng) 9218868437227405312 = v) (w : World) (hw : PW w) : Calls Tryz.prog 218 #[.string s] w (AtPost w v n 1) := by
  obtain ⟨Q, hQ⟩ : ∃ Q, Q = AtPost w v n 1 := ⟨_, rfl⟩
  rw [← hQ]
  have HQ := Lib.hid hQ
  clear hQ
  have HSp := Lib.hid hSp
  have hop := hw.opt
  have HW := Lib.hid hw
  obtain ⟨S, hS⟩ : ∃ S, S = sgn ng := ⟨_, rfl⟩
  rw [← hS] at hv
  have hSs : IntKind.u64.wrap (b2u ng * 9223372036854775808) = S := by rw [hS]; cases ng <;> decide
  clear hSp hw hS
  have HRf := Lib.hid hRf
  clear hRf
  have hfb := fun w => frombits64 v w
  have hmz : (m == 0) = false := by simp; omega
  go_enter Tryz.func218, Tryz.ntmps218
  go_wp2_with (first | (go_at_call 239; refine (HSp.out _).mono ?_; rintro r w1 ⟨rfl, rfl⟩) | (go_at_call 240; refine (HRf.out _).mono ?_; rintro r w1 ⟨rfl, rfl⟩) | (go_at_call 248; refine (bool2u _ _).mono ?_; rintro r w1 ⟨rfl, rfl⟩))
  all_goals go_ret3
  all_goals rw [HQ.out]
  all_goals exact ⟨rfl, Below.refl _ _⟩
set_option maxHeartbeats 1000000 in
theorem at_under (s : ByteArray) (hs : (s.size : Int) ≤ 1000000) (f0 n0 : Nat) (hSp : SpRun s f0 n0 false) (m p : Int) (ng tr hx : Bool) (n : Nat) (hRf : RfRun s m p ng tr false n true) (hm0 : 0 < m) (hp : p < -345) (v : Nat) (hv : bits .or .u64 (sgn ng) 0 = v) (w : World) (hw : PW w) : Calls Tryz.prog 218 #[.string s] w (AtPost w v n 0) := by
  obtain ⟨Q, hQ⟩ : ∃ Q, Q = AtPost w v n 0 := ⟨_, rfl⟩
  rw [← hQ]
  have HQ := Lib.hid hQ
  clear hQ
  have HSp := Lib.hid hSp
  have hop := hw.opt
  have HW := Lib.hid hw
  obtain ⟨S, hS⟩ : ∃ S, S = sgn ng := ⟨_, rfl⟩
  rw [← hS] at hv
  have hSs : IntKind.u64.wrap (b2u ng * 9223372036854775808) = S := by rw [hS]; cases ng <;> decide
  clear hSp hw hS
  have HRf := Lib.hid hRf
  clear hRf
  have hfb := fun w => frombits64 v w
  have hmz : (m == 0) = false := by simp; omega
  have hp3 : ¬ (310 : Int) < p := by omega
  go_enter Tryz.func218, Tryz.ntmps218
  go_wp2_with (first | (go_at_call 239; refine (HSp.out _).mono ?_; rintro r w1 ⟨rfl, rfl⟩) | (go_at_call 240; refine (HRf.out _).mono ?_; rintro r w1 ⟨rfl, rfl⟩) | (go_at_call 248; refine (bool2u _ _).mono ?_; rintro r w1 ⟨rfl, rfl⟩))
  all_goals go_ret3
  all_goals rw [HQ.out]
  all_goals exact ⟨rfl, Below.refl _ _⟩
set_option maxHeartbeats 1000000 in
theorem at_exact (s : ByteArray) (hs : (s.size : Int) ≤ 1000000) (f0 n0 : Nat) (hSp : SpRun s f0 n0 false) (m p : Int) (ng tr hx : Bool) (n : Nat) (hRf : RfRun s m p ng false false n true) (hm0 : 0 < m) (hp0 : -345 ≤ p) (hp1 : p ≤ 310) (fx : Nat) (okx : Bool) (hEx : ∀ w, FPow fpTab w → Calls Tryz.prog 250 #[.int .u64 m, .int .i64 p, .bool ng] w fun r w' => r = .returned (.tuple #[.float .f64 fx, .bool true]) ∧ w' = w) (w : World) (hw : PW w) : Calls Tryz.prog 218 #[.string s] w (AtPost w fx n 0) := by
  obtain ⟨Q, hQ⟩ : ∃ Q, Q = AtPost w fx n 0 := ⟨_, rfl⟩
  rw [← hQ]
  have HQ := Lib.hid hQ
  clear hQ
  have HSp := Lib.hid hSp
  have hop := hw.opt
  have HW := Lib.hid hw
  clear hSp hw
  have HRf := Lib.hid hRf
  clear hRf
  have hmz : (m == 0) = false := by simp; omega
  have HEx := Lib.hid hEx
  clear hEx
  go_enter Tryz.func218, Tryz.ntmps218
  go_wp2_with (first | (go_at_call 239; refine (HSp.out _).mono ?_; rintro r w1 ⟨rfl, rfl⟩) | (go_at_call 240; refine (HRf.out _).mono ?_; rintro r w1 ⟨rfl, rfl⟩) | (go_at_call 248; refine (bool2u _ _).mono ?_; rintro r w1 ⟨rfl, rfl⟩) | (go_at_call 250; refine (HEx.out _ HW.out.fp).mono ?_; rintro r w1 ⟨rfl, rfl⟩))
  all_goals go_ret3
  all_goals rw [HQ.out]
  all_goals exact ⟨rfl, Below.refl _ _⟩
set_option maxHeartbeats 1000000 in
theorem at_parse (s : ByteArray) (hs : (s.size : Int) ≤ 1000000) (f0 n0 : Nat) (hSp : SpRun s f0 n0 false) (m p : Int) (ng tr hx : Bool) (n : Nat) (hRf : RfRun s m p ng false false n true) (hm0 : 0 < m) (hp0 : -345 ≤ p) (hp1 : p ≤ 310) (fx : Nat) (okx : Bool) (hEx : ∀ w, FPow fpTab w → Calls Tryz.prog 250 #[.int .u64 m, .int .i64 p, .bool ng] w fun r w' => r = .returned (.tuple #[.float .f64 fx, .bool false]) ∧ w' = w) (f1 : Nat) (e1 : Bool) (h1 : PfRun m p (sgn ng) f1 e1) (w : World) (hw : PW w) : Calls Tryz.prog 218 #[.string s] w (AtPost w f1 n (if e1 = true then 1 else 0)) := by
  obtain ⟨Q, hQ⟩ : ∃ Q, Q = AtPost w f1 n (if e1 = true then 1 else 0) := ⟨_, rfl⟩
  rw [← hQ]
  have HQ := Lib.hid hQ
  clear hQ
  have HSp := Lib.hid hSp
  have hop := hw.opt
  have HW := Lib.hid hw
  clear hSp hw
  have HRf := Lib.hid hRf
  clear hRf
  have hmz : (m == 0) = false := by simp; omega
  have HEx := Lib.hid hEx
  clear hEx
  obtain ⟨S, hS⟩ : ∃ S, S = sgn ng := ⟨_, rfl⟩
  have hSs : IntKind.u64.wrap (b2u ng * 9223372036854775808) = S := by rw [hS]; cases ng <;> decide
  rw [← hS] at h1
  have H1 := Lib.hid h1
  clear h1 hS
  have he : Hid (erV e1 = er3 (if e1 = true then 1 else 0)) := Lib.hid (by cases e1 <;> rfl)
  go_enter Tryz.func218, Tryz.ntmps218
  go_wp2_with (first | (go_at_call 239; refine (HSp.out _).mono ?_; rintro r w1 ⟨rfl, rfl⟩) | (go_at_call 240; refine (HRf.out _).mono ?_; rintro r w1 ⟨rfl, rfl⟩) | (go_at_call 248; refine (bool2u _ _).mono ?_; rintro r w1 ⟨rfl, rfl⟩) | (go_at_call 250; refine (HEx.out _ HW.out.fp).mono ?_; rintro r w1 ⟨rfl, rfl⟩) | (go_at_call 251; refine (H1.out _ HW.out.pow (by have := HW.out.big; omega)).mono ?_; rintro r w2 ⟨rfl, hb2⟩; have HB2 := Lib.hid hb2; clear hb2))
  all_goals go_ret3
  all_goals rw [HQ.out]
  all_goals exact ⟨by rw [← he.out]; rfl, HB2.out⟩
set_option maxHeartbeats 1000000 in
theorem at_same (s : ByteArray) (hs : (s.size : Int) ≤ 1000000) (f0 n0 : Nat) (hSp : SpRun s f0 n0 false) (m p : Int) (ng tr hx : Bool) (n : Nat) (hRf : RfRun s m p ng true false n true) (hm0 : 0 < m) (hp0 : -345 ≤ p) (hp1 : p ≤ 310) (hm1 : m < 18446744073709551616) (f1 f2 : Nat) (e1 e2 : Bool) (h1 : PfRun m p (sgn ng) f1 e1) (h2 : PfRun (IntKind.u64.wrap (m + 1)) p (sgn ng) f2 e2) (heq : ((FloatKind.f64.format.order f1 f2) == some Ordering.eq) = true) (w : World) (hw : PW w) : Calls Tryz.prog 218 #[.string s] w (AtPost w f1 n (if e1 = true then 1 else 0)) := by
  obtain ⟨Q, hQ⟩ : ∃ Q, Q = AtPost w f1 n (if e1 = true then 1 else 0) := ⟨_, rfl⟩
  rw [← hQ]
  have HQ := Lib.hid hQ
  clear hQ
  have HSp := Lib.hid hSp
  have hop := hw.opt
  have HW := Lib.hid hw
  clear hSp hw
  have HRf := Lib.hid hRf
  clear hRf
  have hmz : (m == 0) = false := by simp; omega
  obtain ⟨S, hS⟩ : ∃ S, S = sgn ng := ⟨_, rfl⟩
  have hSs : IntKind.u64.wrap (b2u ng * 9223372036854775808) = S := by rw [hS]; cases ng <;> decide
  rw [← hS] at h1 h2
  have H1 := Lib.hid h1
  have H2 := Lib.hid h2
  clear h1 h2 hS
  have he : Hid (erV e1 = er3 (if e1 = true then 1 else 0)) := Lib.hid (by cases e1 <;> rfl)
  go_enter Tryz.func218, Tryz.ntmps218
  go_wp2_with (first | (go_at_call 239; refine (HSp.out _).mono ?_; rintro r w1 ⟨rfl, rfl⟩) | (go_at_call 240; refine (HRf.out _).mono ?_; rintro r w1 ⟨rfl, rfl⟩) | (go_at_call 248; refine (bool2u _ _).mono ?_; rintro r w1 ⟨rfl, rfl⟩))
  refine (H1.out _ HW.out.pow (by have := HW.out.big; omega)).mono ?_
  rintro r w2 ⟨rfl, hb2⟩
  have HB2 := Lib.hid hb2
  have HW2 := Lib.hid (HW.out.on hb2)
  clear hb2
  go_wp2_with fail
  refine (H2.out _ HW2.out.pow (by have := HW2.out.big; omega)).mono ?_
  rintro r w3 ⟨rfl, hb3⟩
  have HB3 := Lib.hid (belowOn HB2.out hb3)
  clear hb3
  go_wp2_with fail
  all_goals go_ret3
  all_goals rw [HQ.out]
  all_goals exact ⟨by rw [← he.out]; rfl, HB3.out⟩
theorem rf_run {s : ByteArray} {r : RO} {ng hx : Bool} (h : ∀ w, Calls Tryz.prog 240 #[.string s] w fun e w' => e = .returned (rfVal ng hx r) ∧ w' = w) : RfRun s r.m r.p ng r.tr hx r.n r.ok := h
theorem sgn_in (ng : Bool) : 0 ≤ sgn ng ∧ sgn ng < 18446744073709551616 := by cases ng <;> decide
end Go.Proofs.YtnggkkdcddpjlaaGreatDoor
namespace Go.Proofs.YtnggkkdcddpjlaaGreatDoor
open Go.RowKit
set_option maxRecDepth 100000
set_option linter.unusedVariables false
set_option linter.unusedSimpArgs false
/-- A library's error, or none. -/
def ErrIs (bad : Bool) (v : Value) : Prop := if bad = true then ∃ N, v = .iface 258 (.pointer (some ⟨N, 0, none⟩)) else v = .nilIface
def NumPost (w : World) (v : Value) (bad : Bool) (e : Ending) (w' : World) : Prop := ∃ er, e = .returned (.tuple #[v, er]) ∧ ErrIs bad er ∧ Below w.heap.size w w'
theorem prefix64 (s : ByteArray) (f n k : Nat) (h : ∀ w, PW w → Calls Tryz.prog 218 #[.string s] w (AtPost w f n k)) (w : World) (hw : PW w) :
    Calls Tryz.prog 194 #[.string s, .int .i64 64] w (AtPost w f n k) := by
  have H := Lib.hid h
  have HW := Lib.hid hw
  clear h hw
  obtain ⟨Q, hQ⟩ : ∃ Q, Q = AtPost w f n k := ⟨_, rfl⟩
  rw [← hQ]
  have HQ := Lib.hid hQ
  clear hQ
  go_enter Tryz.func194, Tryz.ntmps194
  go_wp2_with (go_at_call 218; refine (H.out _ HW.out).mono ?_; rintro r w1 ⟨rfl, hb⟩)
  go_ret3
  rw [HQ.out]
  exact ⟨rfl, hb⟩
theorem pfIn_same (s : ByteArray) (f n k : Nat) (h : ∀ w, PW w → Calls Tryz.prog 218 #[.string s] w (AtPost w f n k)) (hn : n = s.size) (w : World) (hw : PW w) :
    Calls Tryz.prog 171 #[.string s, .int .i64 64] w fun e w' => e = .returned (.tuple #[.float .f64 f, er3 k]) ∧ Below w.heap.size w w' := by
  have H := Lib.hid (prefix64 s f n k h w hw)
  have hnb : ((n : Int) != s.size) = false := by simp; omega
  have hnb2 : (n != s.size) = false := by simp; omega
  clear h hw hn
  go_enter Tryz.func171, Tryz.ntmps171
  go_wp2_with (go_at_call 194; refine H.out.mono ?_; rintro r w1 ⟨rfl, hb⟩)
  go_ret2
  exact ⟨rfl, hb⟩
theorem pfIn_other (s : ByteArray) (f n k : Nat) (h : ∀ w, PW w → Calls Tryz.prog 218 #[.string s] w (AtPost w f n k)) (hn : n ≠ s.size) (w : World) (hw : PW w) :
    Calls Tryz.prog 171 #[.string s, .int .i64 64] w fun e w' => e = .returned (.tuple #[.float .f64 0, er3 2]) ∧ Below w.heap.size w w' := by
  have H := Lib.hid (prefix64 s f n k h w hw)
  have hnb : ((n : Int) != s.size) = true := by simp; omega
  have hnb2 : (n != s.size) = true := by simp; omega
  clear h hw hn
  go_enter Tryz.func171, Tryz.ntmps171
  go_wp2_with (go_at_call 194; refine H.out.mono ?_; rintro r w1 ⟨rfl, hb⟩)
  go_ret2
  exact ⟨rfl, hb⟩
/-- toError of ErrRange and of ErrSyntax. -/
theorem toErr (fn s : ByteArray) (b z : Int) (k : Nat) (hk : k = 1 ∨ k = 2) (hlim : s.size ≤ 281474976710656) (w : World) (hg : Good w) :
    Calls Tryz.prog 136 #[.string fn, .string s, .int .i64 b, .int .i64 z, .iface 257 (.int .i64 k)] w fun e w' => ∃ N, e = .returned (.iface 258 (.pointer (some ⟨N, 0, none⟩))) ∧ Below w.heap.size w w' := by
  rcases hk with rfl | rfl
  · obtain ⟨tp, p, hv⟩ := hg.rng
    have hc : w.cell? ⟨2, 0, none⟩ = some (.iface tp p) := World.var?_cell gRng hv 0
    exact (Tryz.strconv_toError_range fn s b z _ w hlim hc (Or.inr ⟨_, _, rfl⟩)).mono fun e w' ⟨N, h1, _, _, h4⟩ => ⟨N, h1, h4⟩
  · obtain ⟨tp, p, hv⟩ := hg.syn
    have hc : w.cell? ⟨1, 0, none⟩ = some (.iface tp p) := World.var?_cell gSyn hv 0
    exact (Tryz.strconv_toError_syntax fn s b z _ w hlim hc (Or.inr ⟨_, _, rfl⟩)).mono fun e w' ⟨N, h1, _, _, h4⟩ => ⟨N, h1, h4⟩
theorem pf_run (s : ByteArray) (hs : s.size ≤ 1000000) (f k : Nat) (hk : k ≤ 2) (h : ∀ w, PW w → Calls Tryz.prog 171 #[.string s, .int .i64 64] w fun e w' => e = .returned (.tuple #[.float .f64 f, er3 k]) ∧ Below w.heap.size w w') (w : World) (hg : Good w) (hw : PW w) :
    Calls Tryz.prog 133 #[.string s, .int .i64 64] w (NumPost w (.float .f64 f) (decide (0 < k))) := by
  have H := Lib.hid h
  have HW := Lib.hid hw
  have HG := Lib.hid hg
  clear h hw hg
  obtain ⟨Q, hQ⟩ : ∃ Q, Q = NumPost w (.float .f64 f) (decide (0 < k)) := ⟨_, rfl⟩
  rw [← hQ]
  have HQ := Lib.hid hQ
  clear hQ
  rcases Nat.eq_zero_or_pos k with hk0 | hk0
  · subst hk0
    unfold er3 at H
    rw [if_pos rfl] at H
    go_enter Tryz.func133, Tryz.ntmps133
    go_wp2_with (go_at_call 171; refine (H.out _ HW.out).mono ?_; rintro r w1 ⟨rfl, hb⟩)
    rw [HQ.out]
    exact ⟨_, rfl, rfl, hb⟩
  · have hk12 : k = 1 ∨ k = 2 := by omega
    have hkb : decide (0 < k) = true := by simpa using hk0
    rw [hkb] at HQ
    have HK := Lib.hid hk12
    unfold er3 at H
    rw [if_neg (by omega)] at H
    clear hkb hk12
    go_enter Tryz.func133, Tryz.ntmps133
    go_wp2_with (first | (go_at_call 171; refine (H.out _ HW.out).mono ?_; rintro r w1 ⟨rfl, hb⟩; have HB := Lib.hid hb; clear hb) | (go_at_call 136; refine (toErr _ _ _ _ k HK.out (by omega) _ (HG.out.on HB.out)).mono ?_; rintro r w2 ⟨N, rfl, hb2⟩; have HB2 := Lib.hid (belowOn HB.out hb2); clear hb2))
    rw [HQ.out]
    exact ⟨_, rfl, ⟨N, rfl⟩, HB2.out⟩
end Go.Proofs.YtnggkkdcddpjlaaGreatDoor
