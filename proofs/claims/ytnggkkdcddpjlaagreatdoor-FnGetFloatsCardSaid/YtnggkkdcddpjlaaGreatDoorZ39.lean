/- internal/strconv.ftoa64, ftoa32 at the form 'g', shortest, at finite floats (printed by wip/mkSE.py). -/
import Derived.Test.YtnggkkdcddpjlaaGreatDoorZ38
namespace Go.Proofs.YtnggkkdcddpjlaaGreatDoor
open Go.RowKit
set_option maxRecDepth 100000
set_option linter.unusedVariables false
theorem owns_on {w w2 : World} {base : Nat} {e : TypeId} {size : Nat} {v : Value} {n : Nat} {xs : List Value} (h : w.ownsRow base e size v n xs) (hb : Below w.heap.size w w2) : w2.ownsRow base e size v n xs :=
  h.kept (row := none) ⟨hb.os, hb.tape, hb.output, hb.size, fun k hk _ => hb.block k hk⟩ (by cases hv : v.ownBlock <;> simp)
theorem bits64 (f : Nat) (w : World) : (callFunc 197 #[.float .f64 f]).run Tryz.prog w = .ok (.value (.int .u64 f)) w := by kernel_rfl
theorem bits32 (f : Nat) (w : World) : (callFunc 196 #[.float .f32 f]).run Tryz.prog w = .ok (.value (.int .u32 f)) w := by kernel_rfl
theorem num_any (d : Nat) (hd : d < 18446744073709551616) (w : World) (hg : Good w) : Calls Tryz.prog 179 #[.int .u64 d] w fun e w' => e = .returned (.int .i64 (nd0 d)) ∧ w' = w := by
  unfold nd0
  by_cases h : d = 0
  · subst h
    exact num_zero w hg
  · rw [if_neg h]
    exact Tryz.internal_strconv_numDigits d (by omega) hd w hg.tab
theorem lt_pow_nd0 (d : Nat) : d < 10 ^ nd0 d := by
  unfold nd0
  split
  · subst_vars; decide
  · exact Lib.lt_pow_nDigits d
/-- What ftoa is to leave. -/
def Txt (w0 : World) (out : List UInt8) (r : Ending) (w' : World) : Prop := ∃ v', r = .returned v' ∧ w'.ownsRow w0.heap.size 5 1 v' out.length (out.map vb) ∧ Below w0.heap.size w0 w'
/-- What an ftoa at 'g' is to be. -/
def FtoaG (fn : FuncId) (x : Value) (out : List UInt8) : Prop :=
  ∀ (v : Value) (w0 w : World), PowAt w → Good w → w.ownsRow w0.heap.size 5 1 v 0 [] → Below w0.heap.size w0 w → Calls Tryz.prog fn #[v, x, .int .u8 103, .int .i64 (-1)] w (Txt w0 out)
/-- The digits of d, the first ahead. -/
def dgs (d : Nat) : Nat → UInt8 := fun t => Lib.dg d (nd0 d - 1 - t)
set_option maxHeartbeats 1000000 in
theorem ftoaG64_norm (f : Nat) (F E fr : Int) (neg : Bool) (hF : (f : Int) = F) (hF0 : 0 ≤ F) (hF1 : F < 18446744073709551616)
    (hneg : (F / 9223372036854775808 != 0) = neg) (hE : bits .and .i64 (F / 4503599627370496) 2047 = E) (hfr : bits .and .u64 F 4503599627370495 = fr) (hfr0 : 0 ≤ fr) (hfr1 : fr < 4503599627370496) (hE1 : E < 2047) (hz : 1 ≤ E) (M : Int) (hM : bits .or .u64 fr 4503599627370496 = M) (hM0 : 4503599627370496 ≤ M) (hM1 : M < 9007199254740992) (hL : ∀ w, Calls Tryz.prog 201 #[.int .u64 M] w fun e w' => e = .returned (.int .i64 53) ∧ w' = w) (d : Nat) (q : Int) (hd64 : d < 18446744073709551616) (hq0 : -345 ≤ q) (hq1 : q ≤ 345) (hS : ∀ w, PowAt w → 8 ≤ w.heap.size → Calls Tryz.prog 209 #[.int .u64 (M * 2048), .int .i64 (E + -1023 - 11 - 52)] w fun r w' => r = .returned (.tuple #[.int .u64 d, .int .i64 q]) ∧ Below w.heap.size w w')
    (out : List UInt8) (hfmt : Prints neg (trimD d (nd0 d) (nd0 d)) ((nd0 d : Int) + q) (dgs d) out) :
    FtoaG 177 (.float .f64 f) out := by
  have hnum := fun w hg => num_any d hd64 w hg
  have hnd := nd0_le d hd64
  have hlt := lt_pow_nd0 d
  obtain ⟨n0, hn0⟩ : ∃ n, n = nd0 d := ⟨_, rfl⟩
  unfold Prints nb dgs at hfmt
  rw [← hn0] at hnum hnd hlt hfmt
  have hset := fun b w hz => set_digits d n0 q (by omega) (by omega) hlt hd64 hnd b w hz
  have htl := trimD_le d n0 n0
  obtain ⟨nt, hnt⟩ : ∃ n, n = trimD d n0 n0 := ⟨_, rfl⟩
  rw [← hnt] at hset htl hfmt
  intro v w0 w hp hg hown hbel
  have hb : ∀ w : World, (callFunc 197 #[.float .f64 f]).run Tryz.prog w = .ok (.value (.int .u64 F)) w := fun w => by rw [bits64, hF]
  have hE2 : (E == 2047) = false := by simp; omega
  have hE3 : (E == 0) = false := by simp; omega
  have hM2 : (M == 0) = false := by simp; omega
  have HL := Lib.hid hL
  have HS := Lib.hid hS
  have HNum := Lib.hid hnum
  have HSet := Lib.hid hset
  have HFmt := Lib.hid hfmt
  have HW := Lib.hid (And.intro hp (And.intro hg (And.intro hown hbel)))
  clear hF hL hS hnum hlt hn0 hset hnt hfmt hp hg hown hbel hd64
  go_enter Tryz.func177, Tryz.ntmps177
  go_wp2_with fail
  go_quiet (fail)
  go_wp2_with (first | (go_at_call 201; refine (HL.out _).mono ?_; rintro r w1 ⟨rfl, rfl⟩) | (go_at_call 209; refine Hid.out ?_))
  generalize hWW : World.alloc _ _ = W1
  have hblk : W1.heap[w.heap.size]? = some (.cells (Array.replicate 32 (.int .u8 0)) 292 (0, 0)) := by rw [← hWW]; exact heap_alloc_new _ _
  have hWb : Below w.heap.size w W1 := by rw [← hWW]; exact belowOn (below_drewN w _) (below_alloc _ _)
  have HBlk := Lib.hid hblk
  have HWb := Lib.hid hWb
  clear hWW hblk hWb
  have HP1 := Lib.hid (HW.out.1.keep HWb.out (by have := HW.out.2.1.big; omega))
  have HG1 := Lib.hid (HW.out.2.1.on HWb.out)
  refine (HS.out W1 HP1.out (by have := HG1.out.big; omega)).mono ?_
  rintro r w2 ⟨rfl, hb2⟩
  have HB2 := Lib.hid (HWb.out.trans (hb2.mono HWb.out.size))
  have HG2 := Lib.hid (HG1.out.on hb2)
  have hblk2 : w2.heap[w.heap.size]? = some (.cells (Array.replicate 32 (.int .u8 0)) 292 (0, 0)) := (hb2.block w.heap.size (Array.getElem?_eq_some_iff.1 HBlk.out).1).trans HBlk.out
  have hz2 : ∀ w' : World, w'.heap[w.heap.size]? = some (.cells (Array.replicate 32 (.int .u8 0)) 292 (0, 0)) → ∀ j, j < 32 → w'.cell? ⟨w.heap.size, j, none⟩ = some (.int .u8 0) ∧ w'.frozen? ⟨w.heap.size, j, none⟩ = false := fun w' h j hj =>
    ⟨by rw [cell_of_row w' _ _ _ _ _ h]; simp [hj], by simp [World.frozen?, h]⟩
  have HZ := Lib.hid hz2
  have HBlk2 := Lib.hid hblk2
  clear hb2 hblk2 hz2
  go_wp2_with fail
  have hS0 : Below w2.heap.size w2 w2.drew := (Below.refl _ _).drew
  have hS1 : Below w.heap.size w2 w2.drew := hS0.mono HB2.out.size
  have HBk := Lib.hid (fun w' (h : Below w2.heap.size w2 w') => (h.block w.heap.size (Array.getElem?_eq_some_iff.1 HBlk2.out).1).trans HBlk2.out)
  go_region_held3 (fun w' => Below w.heap.size w2 w')
    (first | (with_reducible exact hS1) | (with_reducible exact hk3))
    (first
      | (go_at_call 179; refine (HNum.out _ (HG2.out.on hS0)).mono ?_; rintro r w3 ⟨rfl, rfl⟩)
      | (go_at_call 203; refine (HSet.out _ _ (HZ.out _ (HBk.out _ hS0))).mono ?_; rintro r w4 ⟨rfl, hb4, hc4⟩; have hk3 := hS1.trans hb4))
  have HDst : Hid (Dst w0 w4 w.heap.size nt (fun t => ((Lib.dg d (n0 - 1 - t)).toNat : Int)) v []) := Lib.hid (by
    have hbw := HB2.out.trans hk3
    refine ⟨owns_on HW.out.2.2.1 hbw, HW.out.2.2.2.trans (hbw.mono HW.out.2.2.2.size), fun e => ?_, ?_, fun t ht => hc4 t (by omega)⟩
    · have := (HW.out.2.2.1.lt _ e).2
      omega
    · exact Nat.lt_of_lt_of_le (Array.getElem?_eq_some_iff.1 HBlk2.out).1 hk3.size)
  clear hS0 hS1 hk3 hb4 hc4
  go_wp2_with (go_at_call 200; refine (HFmt.out w.heap.size v w0 w4 HDst.out).mono ?_; rintro r w5 ⟨v', rfl, hd⟩; have HD5 := Lib.hid hd; clear hd)
  go_ret
  exact ⟨v', rfl, by simpa using HD5.out.own, HD5.out.below⟩
set_option maxHeartbeats 1000000 in
theorem ftoaG64_den (f : Nat) (F E fr : Int) (neg : Bool) (hF : (f : Int) = F) (hF0 : 0 ≤ F) (hF1 : F < 18446744073709551616)
    (hneg : (F / 9223372036854775808 != 0) = neg) (hE : bits .and .i64 (F / 4503599627370496) 2047 = E) (hfr : bits .and .u64 F 4503599627370495 = fr) (hfr0 : 0 ≤ fr) (hfr1 : fr < 4503599627370496) (hz : E = 0) (hfz : (fr == 0) = false) (l : Nat) (hl0 : 1 ≤ l) (hl1 : l ≤ 52) (M : Int) (hM : IntKind.u64.wrap (fr * 2 ^ (64 - l)) = M) (hM0 : 0 ≤ M) (hM1 : M < 18446744073709551616) (hL : ∀ w, Calls Tryz.prog 201 #[.int .u64 fr] w fun e w' => e = .returned (.int .i64 l) ∧ w' = w) (d : Nat) (q : Int) (hd64 : d < 18446744073709551616) (hq0 : -345 ≤ q) (hq1 : q ≤ 345) (hS : ∀ w, PowAt w → 8 ≤ w.heap.size → Calls Tryz.prog 209 #[.int .u64 (M), .int .i64 (-1022 - (64 - (l : Int)) - 52)] w fun r w' => r = .returned (.tuple #[.int .u64 d, .int .i64 q]) ∧ Below w.heap.size w w')
    (out : List UInt8) (hfmt : Prints neg (trimD d (nd0 d) (nd0 d)) ((nd0 d : Int) + q) (dgs d) out) :
    FtoaG 177 (.float .f64 f) out := by
  have hnum := fun w hg => num_any d hd64 w hg
  have hnd := nd0_le d hd64
  have hlt := lt_pow_nd0 d
  obtain ⟨n0, hn0⟩ : ∃ n, n = nd0 d := ⟨_, rfl⟩
  unfold Prints nb dgs at hfmt
  rw [← hn0] at hnum hnd hlt hfmt
  have hset := fun b w hz => set_digits d n0 q (by omega) (by omega) hlt hd64 hnd b w hz
  have htl := trimD_le d n0 n0
  obtain ⟨nt, hnt⟩ : ∃ n, n = trimD d n0 n0 := ⟨_, rfl⟩
  rw [← hnt] at hset htl hfmt
  intro v w0 w hp hg hown hbel
  have hb : ∀ w : World, (callFunc 197 #[.float .f64 f]).run Tryz.prog w = .ok (.value (.int .u64 F)) w := fun w => by rw [bits64, hF]
  have hE2 : (E == 2047) = false := by simp; omega
  have hnn : ((64 - (l : Int)).toNat) = 64 - l := by omega
  subst hz
  have HL := Lib.hid hL
  have HS := Lib.hid hS
  have HNum := Lib.hid hnum
  have HSet := Lib.hid hset
  have HFmt := Lib.hid hfmt
  have HW := Lib.hid (And.intro hp (And.intro hg (And.intro hown hbel)))
  clear hF hL hS hnum hlt hn0 hset hnt hfmt hp hg hown hbel hd64
  go_enter Tryz.func177, Tryz.ntmps177
  go_wp2_with fail
  go_quiet (fail)
  go_wp2_with (first | (go_at_call 201; refine (HL.out _).mono ?_; rintro r w1 ⟨rfl, rfl⟩) | (go_at_call 209; refine Hid.out ?_))
  generalize hWW : World.alloc _ _ = W1
  have hblk : W1.heap[w.heap.size]? = some (.cells (Array.replicate 32 (.int .u8 0)) 292 (0, 0)) := by rw [← hWW]; exact heap_alloc_new _ _
  have hWb : Below w.heap.size w W1 := by rw [← hWW]; exact belowOn (below_drewN w _) (below_alloc _ _)
  have HBlk := Lib.hid hblk
  have HWb := Lib.hid hWb
  clear hWW hblk hWb
  have HP1 := Lib.hid (HW.out.1.keep HWb.out (by have := HW.out.2.1.big; omega))
  have HG1 := Lib.hid (HW.out.2.1.on HWb.out)
  refine (HS.out W1 HP1.out (by have := HG1.out.big; omega)).mono ?_
  rintro r w2 ⟨rfl, hb2⟩
  have HB2 := Lib.hid (HWb.out.trans (hb2.mono HWb.out.size))
  have HG2 := Lib.hid (HG1.out.on hb2)
  have hblk2 : w2.heap[w.heap.size]? = some (.cells (Array.replicate 32 (.int .u8 0)) 292 (0, 0)) := (hb2.block w.heap.size (Array.getElem?_eq_some_iff.1 HBlk.out).1).trans HBlk.out
  have hz2 : ∀ w' : World, w'.heap[w.heap.size]? = some (.cells (Array.replicate 32 (.int .u8 0)) 292 (0, 0)) → ∀ j, j < 32 → w'.cell? ⟨w.heap.size, j, none⟩ = some (.int .u8 0) ∧ w'.frozen? ⟨w.heap.size, j, none⟩ = false := fun w' h j hj =>
    ⟨by rw [cell_of_row w' _ _ _ _ _ h]; simp [hj], by simp [World.frozen?, h]⟩
  have HZ := Lib.hid hz2
  have HBlk2 := Lib.hid hblk2
  clear hb2 hblk2 hz2
  go_wp2_with fail
  have hS0 : Below w2.heap.size w2 w2.drew := (Below.refl _ _).drew
  have hS1 : Below w.heap.size w2 w2.drew := hS0.mono HB2.out.size
  have HBk := Lib.hid (fun w' (h : Below w2.heap.size w2 w') => (h.block w.heap.size (Array.getElem?_eq_some_iff.1 HBlk2.out).1).trans HBlk2.out)
  go_region_held3 (fun w' => Below w.heap.size w2 w')
    (first | (with_reducible exact hS1) | (with_reducible exact hk3))
    (first
      | (go_at_call 179; refine (HNum.out _ (HG2.out.on hS0)).mono ?_; rintro r w3 ⟨rfl, rfl⟩)
      | (go_at_call 203; refine (HSet.out _ _ (HZ.out _ (HBk.out _ hS0))).mono ?_; rintro r w4 ⟨rfl, hb4, hc4⟩; have hk3 := hS1.trans hb4))
  have HDst : Hid (Dst w0 w4 w.heap.size nt (fun t => ((Lib.dg d (n0 - 1 - t)).toNat : Int)) v []) := Lib.hid (by
    have hbw := HB2.out.trans hk3
    refine ⟨owns_on HW.out.2.2.1 hbw, HW.out.2.2.2.trans (hbw.mono HW.out.2.2.2.size), fun e => ?_, ?_, fun t ht => hc4 t (by omega)⟩
    · have := (HW.out.2.2.1.lt _ e).2
      omega
    · exact Nat.lt_of_lt_of_le (Array.getElem?_eq_some_iff.1 HBlk2.out).1 hk3.size)
  clear hS0 hS1 hk3 hb4 hc4
  go_wp2_with (go_at_call 200; refine (HFmt.out w.heap.size v w0 w4 HDst.out).mono ?_; rintro r w5 ⟨v', rfl, hd⟩; have HD5 := Lib.hid hd; clear hd)
  go_ret
  exact ⟨v', rfl, by simpa using HD5.out.own, HD5.out.below⟩
set_option maxHeartbeats 1000000 in
theorem ftoaG64_zero (f : Nat) (F E fr : Int) (neg : Bool) (hF : (f : Int) = F) (hF0 : 0 ≤ F) (hF1 : F < 18446744073709551616)
    (hneg : (F / 9223372036854775808 != 0) = neg) (hE : bits .and .i64 (F / 4503599627370496) 2047 = E) (hfr : bits .and .u64 F 4503599627370495 = fr) (hfr0 : 0 ≤ fr) (hfr1 : fr < 4503599627370496) (hz : E = 0) (hfz : fr = 0) :
    FtoaG 177 (.float .f64 f) (if neg then [45, 48] else [48]) := by
  intro v w0 w hp hg hown hbel
  have hb : ∀ w : World, (callFunc 197 #[.float .f64 f]).run Tryz.prog w = .ok (.value (.int .u64 F)) w := fun w => by rw [bits64, hF]
  have hE2 : (E == 2047) = false := by simp; omega
  have HDst : ∀ w1 : World, Below w.heap.size w w1 → w1 = w ∨ True → ∀ db, db < w1.heap.size → v.ownBlock ≠ some db → Dst w0 w1 db 0 (fun _ => 0) v [] := fun w1 hb _ db hdb hne => ⟨owns_on hown hb, hbel.trans (hb.mono hbel.size), hne, hdb, fun t ht => by omega⟩
  have hbig := hg.big
  have hne0 : v.ownBlock ≠ some 0 ∨ v.ownBlock ≠ some 1 := by
    by_cases h : v.ownBlock = some 0
    · right; rw [h]; simp
    · left; exact h
  obtain ⟨db, hdb, hne⟩ : ∃ db, db < w.heap.size ∧ v.ownBlock ≠ some db := by
    rcases hne0 with h | h
    · exact ⟨0, by omega, h⟩
    · exact ⟨1, by omega, h⟩
  have HD := Lib.hid (fun w1 (hb : Below w.heap.size w w1) => HDst w1 hb (.inr trivial) db (Nat.lt_of_lt_of_le hdb hb.size) hne)
  have HOL := Lib.hid (And.intro hown hbel)
  clear hF hp hg hown hbel hdb hne hne0 HDst hbig
  subst hz hfz
  cases neg
  · go_enter Tryz.func177, Tryz.ntmps177
    go_wp2_with fail
    go_quiet (fail)
    go_wp2_with (go_at_call 200; refine (fmt_g_nn db 0 (.slice none 0 0) (fun _ => 0) v [] w0 _ (HD.out _ (below_drewN w _)) (by simp)).mono ?_; rintro r w5 ⟨v', rfl, hd⟩; have HD5 := Lib.hid hd; clear hd)
    go_ret
    exact ⟨v', rfl, HD5.out.own, HD5.out.below⟩
  · go_enter Tryz.func177, Tryz.ntmps177
    go_wp2_with fail
    go_quiet (fail)
    go_wp2_with (go_at_call 200; refine (fmt_g_nn_neg db 0 (.slice none 0 0) (fun _ => 0) v [] w0 _ (HD.out _ (below_drewN w _)) (by simp)).mono ?_; rintro r w5 ⟨v', rfl, hd⟩; have HD5 := Lib.hid hd; clear hd)
    go_ret
    exact ⟨v', rfl, HD5.out.own, HD5.out.below⟩
set_option maxHeartbeats 1000000 in
theorem ftoaG32_norm (f : Nat) (F E fr : Int) (neg : Bool) (hF : (f : Int) = F) (hF0 : 0 ≤ F) (hF1 : F < 4294967296)
    (hneg : (F / 2147483648 != 0) = neg) (hE : bits .and .i64 (F / 8388608) 255 = E) (hfr : bits .and .u64 F 8388607 = fr) (hfr0 : 0 ≤ fr) (hfr1 : fr < 8388608) (hE1 : E < 255) (hz : 1 ≤ E) (M : Int) (hM : bits .or .u64 fr 8388608 = M) (hM0 : 8388608 ≤ M) (hM1 : M < 16777216) (hL : ∀ w, Calls Tryz.prog 201 #[.int .u64 M] w fun e w' => e = .returned (.int .i64 24) ∧ w' = w) (d : Nat) (q : Int) (hd64 : d < 18446744073709551616) (hq0 : -345 ≤ q) (hq1 : q ≤ 345) (hS : ∀ w, PowAt w → 8 ≤ w.heap.size → Calls Tryz.prog 202 #[.int .u64 (M * 1099511627776), .int .i64 (E + -127 - 40 - 23)] w fun r w' => r = .returned (.tuple #[.int .u64 d, .int .i64 q]) ∧ Below w.heap.size w w')
    (out : List UInt8) (hfmt : Prints neg (trimD d (nd0 d) (nd0 d)) ((nd0 d : Int) + q) (dgs d) out) :
    FtoaG 176 (.float .f32 f) out := by
  have hnum := fun w hg => num_any d hd64 w hg
  have hnd := nd0_le d hd64
  have hlt := lt_pow_nd0 d
  obtain ⟨n0, hn0⟩ : ∃ n, n = nd0 d := ⟨_, rfl⟩
  unfold Prints nb dgs at hfmt
  rw [← hn0] at hnum hnd hlt hfmt
  have hset := fun b w hz => set_digits d n0 q (by omega) (by omega) hlt hd64 hnd b w hz
  have htl := trimD_le d n0 n0
  obtain ⟨nt, hnt⟩ : ∃ n, n = trimD d n0 n0 := ⟨_, rfl⟩
  rw [← hnt] at hset htl hfmt
  intro v w0 w hp hg hown hbel
  have hb : ∀ w : World, (callFunc 196 #[.float .f32 f]).run Tryz.prog w = .ok (.value (.int .u32 F)) w := fun w => by rw [bits32, hF]
  have hE2 : (E == 255) = false := by simp; omega
  have hE3 : (E == 0) = false := by simp; omega
  have hM2 : (M == 0) = false := by simp; omega
  have HL := Lib.hid hL
  have HS := Lib.hid hS
  have HNum := Lib.hid hnum
  have HSet := Lib.hid hset
  have HFmt := Lib.hid hfmt
  have HW := Lib.hid (And.intro hp (And.intro hg (And.intro hown hbel)))
  clear hF hL hS hnum hlt hn0 hset hnt hfmt hp hg hown hbel hd64
  go_enter Tryz.func176, Tryz.ntmps176
  go_wp2_with fail
  go_quiet (fail)
  go_wp2_with (first | (go_at_call 201; refine (HL.out _).mono ?_; rintro r w1 ⟨rfl, rfl⟩) | (go_at_call 202; refine Hid.out ?_))
  generalize hWW : World.alloc _ _ = W1
  have hblk : W1.heap[w.heap.size]? = some (.cells (Array.replicate 32 (.int .u8 0)) 292 (0, 0)) := by rw [← hWW]; exact heap_alloc_new _ _
  have hWb : Below w.heap.size w W1 := by rw [← hWW]; exact belowOn (below_drewN w _) (below_alloc _ _)
  have HBlk := Lib.hid hblk
  have HWb := Lib.hid hWb
  clear hWW hblk hWb
  have HP1 := Lib.hid (HW.out.1.keep HWb.out (by have := HW.out.2.1.big; omega))
  have HG1 := Lib.hid (HW.out.2.1.on HWb.out)
  refine (HS.out W1 HP1.out (by have := HG1.out.big; omega)).mono ?_
  rintro r w2 ⟨rfl, hb2⟩
  have HB2 := Lib.hid (HWb.out.trans (hb2.mono HWb.out.size))
  have HG2 := Lib.hid (HG1.out.on hb2)
  have hblk2 : w2.heap[w.heap.size]? = some (.cells (Array.replicate 32 (.int .u8 0)) 292 (0, 0)) := (hb2.block w.heap.size (Array.getElem?_eq_some_iff.1 HBlk.out).1).trans HBlk.out
  have hz2 : ∀ w' : World, w'.heap[w.heap.size]? = some (.cells (Array.replicate 32 (.int .u8 0)) 292 (0, 0)) → ∀ j, j < 32 → w'.cell? ⟨w.heap.size, j, none⟩ = some (.int .u8 0) ∧ w'.frozen? ⟨w.heap.size, j, none⟩ = false := fun w' h j hj =>
    ⟨by rw [cell_of_row w' _ _ _ _ _ h]; simp [hj], by simp [World.frozen?, h]⟩
  have HZ := Lib.hid hz2
  have HBlk2 := Lib.hid hblk2
  clear hb2 hblk2 hz2
  go_wp2_with fail
  have hS0 : Below w2.heap.size w2 w2.drew := (Below.refl _ _).drew
  have hS1 : Below w.heap.size w2 w2.drew := hS0.mono HB2.out.size
  have HBk := Lib.hid (fun w' (h : Below w2.heap.size w2 w') => (h.block w.heap.size (Array.getElem?_eq_some_iff.1 HBlk2.out).1).trans HBlk2.out)
  go_region_held3 (fun w' => Below w.heap.size w2 w')
    (first | (with_reducible exact hS1) | (with_reducible exact hk3))
    (first
      | (go_at_call 179; refine (HNum.out _ (HG2.out.on hS0)).mono ?_; rintro r w3 ⟨rfl, rfl⟩)
      | (go_at_call 203; refine (HSet.out _ _ (HZ.out _ (HBk.out _ hS0))).mono ?_; rintro r w4 ⟨rfl, hb4, hc4⟩; have hk3 := hS1.trans hb4))
  have HDst : Hid (Dst w0 w4 w.heap.size nt (fun t => ((Lib.dg d (n0 - 1 - t)).toNat : Int)) v []) := Lib.hid (by
    have hbw := HB2.out.trans hk3
    refine ⟨owns_on HW.out.2.2.1 hbw, HW.out.2.2.2.trans (hbw.mono HW.out.2.2.2.size), fun e => ?_, ?_, fun t ht => hc4 t (by omega)⟩
    · have := (HW.out.2.2.1.lt _ e).2
      omega
    · exact Nat.lt_of_lt_of_le (Array.getElem?_eq_some_iff.1 HBlk2.out).1 hk3.size)
  clear hS0 hS1 hk3 hb4 hc4
  go_wp2_with (go_at_call 200; refine (HFmt.out w.heap.size v w0 w4 HDst.out).mono ?_; rintro r w5 ⟨v', rfl, hd⟩; have HD5 := Lib.hid hd; clear hd)
  go_ret
  exact ⟨v', rfl, by simpa using HD5.out.own, HD5.out.below⟩
set_option maxHeartbeats 1000000 in
theorem ftoaG32_den (f : Nat) (F E fr : Int) (neg : Bool) (hF : (f : Int) = F) (hF0 : 0 ≤ F) (hF1 : F < 4294967296)
    (hneg : (F / 2147483648 != 0) = neg) (hE : bits .and .i64 (F / 8388608) 255 = E) (hfr : bits .and .u64 F 8388607 = fr) (hfr0 : 0 ≤ fr) (hfr1 : fr < 8388608) (hz : E = 0) (hfz : (fr == 0) = false) (l : Nat) (hl0 : 1 ≤ l) (hl1 : l ≤ 23) (M : Int) (hM : IntKind.u64.wrap (fr * 2 ^ (64 - l)) = M) (hM0 : 0 ≤ M) (hM1 : M < 18446744073709551616) (hL : ∀ w, Calls Tryz.prog 201 #[.int .u64 fr] w fun e w' => e = .returned (.int .i64 l) ∧ w' = w) (d : Nat) (q : Int) (hd64 : d < 18446744073709551616) (hq0 : -345 ≤ q) (hq1 : q ≤ 345) (hS : ∀ w, PowAt w → 8 ≤ w.heap.size → Calls Tryz.prog 202 #[.int .u64 (M), .int .i64 (-126 - (64 - (l : Int)) - 23)] w fun r w' => r = .returned (.tuple #[.int .u64 d, .int .i64 q]) ∧ Below w.heap.size w w')
    (out : List UInt8) (hfmt : Prints neg (trimD d (nd0 d) (nd0 d)) ((nd0 d : Int) + q) (dgs d) out) :
    FtoaG 176 (.float .f32 f) out := by
  have hnum := fun w hg => num_any d hd64 w hg
  have hnd := nd0_le d hd64
  have hlt := lt_pow_nd0 d
  obtain ⟨n0, hn0⟩ : ∃ n, n = nd0 d := ⟨_, rfl⟩
  unfold Prints nb dgs at hfmt
  rw [← hn0] at hnum hnd hlt hfmt
  have hset := fun b w hz => set_digits d n0 q (by omega) (by omega) hlt hd64 hnd b w hz
  have htl := trimD_le d n0 n0
  obtain ⟨nt, hnt⟩ : ∃ n, n = trimD d n0 n0 := ⟨_, rfl⟩
  rw [← hnt] at hset htl hfmt
  intro v w0 w hp hg hown hbel
  have hb : ∀ w : World, (callFunc 196 #[.float .f32 f]).run Tryz.prog w = .ok (.value (.int .u32 F)) w := fun w => by rw [bits32, hF]
  have hE2 : (E == 255) = false := by simp; omega
  have hnn : ((64 - (l : Int)).toNat) = 64 - l := by omega
  subst hz
  have HL := Lib.hid hL
  have HS := Lib.hid hS
  have HNum := Lib.hid hnum
  have HSet := Lib.hid hset
  have HFmt := Lib.hid hfmt
  have HW := Lib.hid (And.intro hp (And.intro hg (And.intro hown hbel)))
  clear hF hL hS hnum hlt hn0 hset hnt hfmt hp hg hown hbel hd64
  go_enter Tryz.func176, Tryz.ntmps176
  go_wp2_with fail
  go_quiet (fail)
  go_wp2_with (first | (go_at_call 201; refine (HL.out _).mono ?_; rintro r w1 ⟨rfl, rfl⟩) | (go_at_call 202; refine Hid.out ?_))
  generalize hWW : World.alloc _ _ = W1
  have hblk : W1.heap[w.heap.size]? = some (.cells (Array.replicate 32 (.int .u8 0)) 292 (0, 0)) := by rw [← hWW]; exact heap_alloc_new _ _
  have hWb : Below w.heap.size w W1 := by rw [← hWW]; exact belowOn (below_drewN w _) (below_alloc _ _)
  have HBlk := Lib.hid hblk
  have HWb := Lib.hid hWb
  clear hWW hblk hWb
  have HP1 := Lib.hid (HW.out.1.keep HWb.out (by have := HW.out.2.1.big; omega))
  have HG1 := Lib.hid (HW.out.2.1.on HWb.out)
  refine (HS.out W1 HP1.out (by have := HG1.out.big; omega)).mono ?_
  rintro r w2 ⟨rfl, hb2⟩
  have HB2 := Lib.hid (HWb.out.trans (hb2.mono HWb.out.size))
  have HG2 := Lib.hid (HG1.out.on hb2)
  have hblk2 : w2.heap[w.heap.size]? = some (.cells (Array.replicate 32 (.int .u8 0)) 292 (0, 0)) := (hb2.block w.heap.size (Array.getElem?_eq_some_iff.1 HBlk.out).1).trans HBlk.out
  have hz2 : ∀ w' : World, w'.heap[w.heap.size]? = some (.cells (Array.replicate 32 (.int .u8 0)) 292 (0, 0)) → ∀ j, j < 32 → w'.cell? ⟨w.heap.size, j, none⟩ = some (.int .u8 0) ∧ w'.frozen? ⟨w.heap.size, j, none⟩ = false := fun w' h j hj =>
    ⟨by rw [cell_of_row w' _ _ _ _ _ h]; simp [hj], by simp [World.frozen?, h]⟩
  have HZ := Lib.hid hz2
  have HBlk2 := Lib.hid hblk2
  clear hb2 hblk2 hz2
  go_wp2_with fail
  have hS0 : Below w2.heap.size w2 w2.drew := (Below.refl _ _).drew
  have hS1 : Below w.heap.size w2 w2.drew := hS0.mono HB2.out.size
  have HBk := Lib.hid (fun w' (h : Below w2.heap.size w2 w') => (h.block w.heap.size (Array.getElem?_eq_some_iff.1 HBlk2.out).1).trans HBlk2.out)
  go_region_held3 (fun w' => Below w.heap.size w2 w')
    (first | (with_reducible exact hS1) | (with_reducible exact hk3))
    (first
      | (go_at_call 179; refine (HNum.out _ (HG2.out.on hS0)).mono ?_; rintro r w3 ⟨rfl, rfl⟩)
      | (go_at_call 203; refine (HSet.out _ _ (HZ.out _ (HBk.out _ hS0))).mono ?_; rintro r w4 ⟨rfl, hb4, hc4⟩; have hk3 := hS1.trans hb4))
  have HDst : Hid (Dst w0 w4 w.heap.size nt (fun t => ((Lib.dg d (n0 - 1 - t)).toNat : Int)) v []) := Lib.hid (by
    have hbw := HB2.out.trans hk3
    refine ⟨owns_on HW.out.2.2.1 hbw, HW.out.2.2.2.trans (hbw.mono HW.out.2.2.2.size), fun e => ?_, ?_, fun t ht => hc4 t (by omega)⟩
    · have := (HW.out.2.2.1.lt _ e).2
      omega
    · exact Nat.lt_of_lt_of_le (Array.getElem?_eq_some_iff.1 HBlk2.out).1 hk3.size)
  clear hS0 hS1 hk3 hb4 hc4
  go_wp2_with (go_at_call 200; refine (HFmt.out w.heap.size v w0 w4 HDst.out).mono ?_; rintro r w5 ⟨v', rfl, hd⟩; have HD5 := Lib.hid hd; clear hd)
  go_ret
  exact ⟨v', rfl, by simpa using HD5.out.own, HD5.out.below⟩
set_option maxHeartbeats 1000000 in
theorem ftoaG32_zero (f : Nat) (F E fr : Int) (neg : Bool) (hF : (f : Int) = F) (hF0 : 0 ≤ F) (hF1 : F < 4294967296)
    (hneg : (F / 2147483648 != 0) = neg) (hE : bits .and .i64 (F / 8388608) 255 = E) (hfr : bits .and .u64 F 8388607 = fr) (hfr0 : 0 ≤ fr) (hfr1 : fr < 8388608) (hz : E = 0) (hfz : fr = 0) :
    FtoaG 176 (.float .f32 f) (if neg then [45, 48] else [48]) := by
  intro v w0 w hp hg hown hbel
  have hb : ∀ w : World, (callFunc 196 #[.float .f32 f]).run Tryz.prog w = .ok (.value (.int .u32 F)) w := fun w => by rw [bits32, hF]
  have hE2 : (E == 255) = false := by simp; omega
  have HDst : ∀ w1 : World, Below w.heap.size w w1 → w1 = w ∨ True → ∀ db, db < w1.heap.size → v.ownBlock ≠ some db → Dst w0 w1 db 0 (fun _ => 0) v [] := fun w1 hb _ db hdb hne => ⟨owns_on hown hb, hbel.trans (hb.mono hbel.size), hne, hdb, fun t ht => by omega⟩
  have hbig := hg.big
  have hne0 : v.ownBlock ≠ some 0 ∨ v.ownBlock ≠ some 1 := by
    by_cases h : v.ownBlock = some 0
    · right; rw [h]; simp
    · left; exact h
  obtain ⟨db, hdb, hne⟩ : ∃ db, db < w.heap.size ∧ v.ownBlock ≠ some db := by
    rcases hne0 with h | h
    · exact ⟨0, by omega, h⟩
    · exact ⟨1, by omega, h⟩
  have HD := Lib.hid (fun w1 (hb : Below w.heap.size w w1) => HDst w1 hb (.inr trivial) db (Nat.lt_of_lt_of_le hdb hb.size) hne)
  have HOL := Lib.hid (And.intro hown hbel)
  clear hF hp hg hown hbel hdb hne hne0 HDst hbig
  subst hz hfz
  cases neg
  · go_enter Tryz.func176, Tryz.ntmps176
    go_wp2_with fail
    go_quiet (fail)
    go_wp2_with (go_at_call 200; refine (fmt_g_nn db 0 (.slice none 0 0) (fun _ => 0) v [] w0 _ (HD.out _ (below_drewN w _)) (by simp)).mono ?_; rintro r w5 ⟨v', rfl, hd⟩; have HD5 := Lib.hid hd; clear hd)
    go_ret
    exact ⟨v', rfl, HD5.out.own, HD5.out.below⟩
  · go_enter Tryz.func176, Tryz.ntmps176
    go_wp2_with fail
    go_quiet (fail)
    go_wp2_with (go_at_call 200; refine (fmt_g_nn_neg db 0 (.slice none 0 0) (fun _ => 0) v [] w0 _ (HD.out _ (below_drewN w _)) (by simp)).mono ?_; rintro r w5 ⟨v', rfl, hd⟩; have HD5 := Lib.hid hd; clear hd)
    go_ret
    exact ⟨v', rfl, HD5.out.own, HD5.out.below⟩
end Go.Proofs.YtnggkkdcddpjlaaGreatDoor
