/- internal/strconv.parseFloat64 and parseFloat32, told by what pack64 and pack32 answer; parseFloat32 is total, and its answers hang on its arguments alone. internal/strconv.parseFloat64 at a text that rounds back to a float: the answer is that float. -/
import Derived.Test.YtnggkkdcddpjlaaGreatDoorZ17
import Derived.Test.YtnggkkdcddpjlaaGreatDoorZ26
import Derived.Lib.ItoaNum
namespace Go.Proofs.YtnggkkdcddpjlaaGreatDoor
open Go.RowKit
set_option maxRecDepth 100000
set_option linter.unusedVariables false
theorem or_in32 (x y : Int) : 0 ≤ bits BinOp.or IntKind.u32 x y ∧ bits BinOp.or IntKind.u32 x y < 4294967296 := by
  have h : ∀ z : Int, 0 ≤ IntKind.u32.wrap z ∧ IntKind.u32.wrap z < 4294967296 := fun z => by rw [IntKind.wrap_u32]; omega
  exact h _
set_option maxHeartbeats 2000000 in
theorem pf64_hi (d : Nat) (hd : d < 18446744073709551616) (p sign : Int) (hp0 : -345 ≤ p) (hp1 : p ≤ 310) (hs0 : 0 ≤ sign) (hs1 : sign < 18446744073709551616) (b : Nat) (hb : b ≤ 64) (hbd : Lib.bitLen d = b) (lp e : Int) (hlp : lp = p * 108853 / 32768) (he : e = min 1074 (53 - (b : Int) - lp)) (hfar : ¬ 64 ≤ -(e - (64 - (b : Int)) + lp + 3)) (f : Nat) (er : Bool) (hc : 36028797018963966 ≤ scl (e - (64 - (b : Int))) p (IntKind.u64.wrap ((d : Int) * 2 ^ (64 - b)))) (hF : ∀ w, Calls Tryz.prog 260 #[.int .u64 (bits BinOp.or IntKind.u64 sign (rnd (bits BinOp.or IntKind.u64 (scl (e - (64 - (b : Int))) p (IntKind.u64.wrap ((d : Int) * 2 ^ (64 - b))) / 2) (bits BinOp.and IntKind.u64 (scl (e - (64 - (b : Int))) p (IntKind.u64.wrap ((d : Int) * 2 ^ (64 - b)))) 1)))), .int .i64 (-(e - 1))] w fun r w' => r = .returned (.tuple #[.float .f64 f, erV er]) ∧ w' = w) :
    ∀ w, PowAt w → 8 ≤ w.heap.size → Calls Tryz.prog 251 #[.int .u64 d, .int .i64 p, .int .u64 sign] w fun r w' => r = .returned (.tuple #[.float .f64 f, erV er]) ∧ Below w.heap.size w w' := by
  have hl0 : -2000 ≤ lp := by omega
  have hl1 : lp ≤ 2000 := by omega
  have he0 : -1100 ≤ e := by omega
  have he1 : e ≤ 1074 := by omega
  have hx0 := (u64_in2 ((d : Int) * 2 ^ (64 - b))).1
  have hx1 := (u64_in2 ((d : Int) * 2 ^ (64 - b))).2
  obtain ⟨U, hU⟩ : ∃ U, U = scl (e - (64 - (b : Int))) p (IntKind.u64.wrap ((d : Int) * 2 ^ (64 - b))) := ⟨_, rfl⟩
  have hUi := scl_in (e - (64 - (b : Int))) p (IntKind.u64.wrap ((d : Int) * 2 ^ (64 - b)))
  have hS := fun bb w h => scl_run (e - (64 - (b : Int))) p (IntKind.u64.wrap ((d : Int) * 2 ^ (64 - b))) hx0 hx1 bb w h
  rw [← hU] at hUi hS hc hF
  rw [← hlp] at hS
  have HS := Lib.hid hS
  have hL := fun w => Tryz.bits_Len64 (d : Int) w (by omega) (by omega)
  have hdd : ((d : Int)).toNat = d := by omega
  rw [hdd, hbd] at hL
  have hL2 := fun w => l2_run p (by omega) (by omega) w
  rw [← hlp] at hL2
  have HL := Lib.hid hL
  have HL2 := Lib.hid hL2
  have hmin : min 1074 (53 - (b : Int) - lp) = e := he.symm
  have hfar2 : decide (64 ≤ -(e - (64 - (b : Int)) + lp + 3)) = false := by simpa using hfar
  have hnn : (64 - (b : Int)).toNat = 64 - b := by omega
  clear hL hL2 hlp hdd hbd he hU hS
  obtain ⟨x, hxe⟩ : ∃ x, IntKind.u64.wrap ((d : Int) * 2 ^ (64 - b)) = x := ⟨_, rfl⟩
  rw [hxe] at hx0 hx1 HS
  have HXE := Lib.hid hxe
  clear hxe
  have hcb : decide (36028797018963966 ≤ U) = true := by simpa using hc
  have HF := Lib.hid hF
  clear hF
  intro w hp hw
  have HP := Lib.hid hp
  have HW := Lib.hid hw
  clear hp hw
  go_enter Tryz.func251, Tryz.ntmps251
  go_wp2_with (first | (go_at_call 201; refine (HL.out _).mono ?_; rintro r w1 ⟨rfl, rfl⟩) | (go_at_call 223; refine (HL2.out _).mono ?_; rintro r w1 ⟨rfl, rfl⟩) | (go_at_call 222; refine (prescale_run w1.heap.size _ _ _ (e - (64 - (b : Int))) p lp _ (HP.out.keep (below_alloc w1 _) HW.out) (by omega) (by omega) (by omega) (by omega) hl0 hl1 HW.out (by simp; rfl) (by simp; rfl) (by simp; rfl) (by simp) (by simp) (by simp)).mono ?_; rintro r w2 ⟨rfl, hb2, p0, p1, p2⟩; have hPre := Pre.mk (w := w2) (b := w1.heap.size) (by have h := hb2.size; simp at h; omega) p0 p1 p2; have hB2 := Below.trans (below_alloc w1 _) hb2) | (go_at_call 224; rw [HXE.out]; refine (HS.out _ _ hPre).mono ?_; rintro r w3 ⟨rfl, hb3⟩; have hB3 := belowOn hB2 hb3) | (go_at_call 229; refine (unmin_run _ _).mono ?_; rintro r w4 ⟨rfl, rfl⟩) | (go_at_call 210; refine (Tryz.internal_strconv_bool2_int true _).mono ?_; rintro r w5 ⟨rfl, rfl⟩) | (go_at_call 228; refine (round_run _ _).mono ?_; rintro r w6 ⟨rfl, rfl⟩) | (go_at_call 260; refine (HF.out _).mono ?_; rintro r w7 ⟨rfl, rfl⟩))
  all_goals go_ret2
  all_goals exact ⟨rfl, hB3⟩
set_option maxHeartbeats 2000000 in
theorem pf64_lo (d : Nat) (hd : d < 18446744073709551616) (p sign : Int) (hp0 : -345 ≤ p) (hp1 : p ≤ 310) (hs0 : 0 ≤ sign) (hs1 : sign < 18446744073709551616) (b : Nat) (hb : b ≤ 64) (hbd : Lib.bitLen d = b) (lp e : Int) (hlp : lp = p * 108853 / 32768) (he : e = min 1074 (53 - (b : Int) - lp)) (hfar : ¬ 64 ≤ -(e - (64 - (b : Int)) + lp + 3)) (f : Nat) (er : Bool) (hc : ¬ 36028797018963966 ≤ scl (e - (64 - (b : Int))) p (IntKind.u64.wrap ((d : Int) * 2 ^ (64 - b)))) (hF : ∀ w, Calls Tryz.prog 260 #[.int .u64 (bits BinOp.or IntKind.u64 sign (rnd (bits BinOp.or IntKind.u64 (scl (e - (64 - (b : Int))) p (IntKind.u64.wrap ((d : Int) * 2 ^ (64 - b)))) (bits BinOp.and IntKind.u64 (scl (e - (64 - (b : Int))) p (IntKind.u64.wrap ((d : Int) * 2 ^ (64 - b)))) 1)))), .int .i64 (-e)] w fun r w' => r = .returned (.tuple #[.float .f64 f, erV er]) ∧ w' = w) :
    ∀ w, PowAt w → 8 ≤ w.heap.size → Calls Tryz.prog 251 #[.int .u64 d, .int .i64 p, .int .u64 sign] w fun r w' => r = .returned (.tuple #[.float .f64 f, erV er]) ∧ Below w.heap.size w w' := by
  have hl0 : -2000 ≤ lp := by omega
  have hl1 : lp ≤ 2000 := by omega
  have he0 : -1100 ≤ e := by omega
  have he1 : e ≤ 1074 := by omega
  have hx0 := (u64_in2 ((d : Int) * 2 ^ (64 - b))).1
  have hx1 := (u64_in2 ((d : Int) * 2 ^ (64 - b))).2
  obtain ⟨U, hU⟩ : ∃ U, U = scl (e - (64 - (b : Int))) p (IntKind.u64.wrap ((d : Int) * 2 ^ (64 - b))) := ⟨_, rfl⟩
  have hUi := scl_in (e - (64 - (b : Int))) p (IntKind.u64.wrap ((d : Int) * 2 ^ (64 - b)))
  have hS := fun bb w h => scl_run (e - (64 - (b : Int))) p (IntKind.u64.wrap ((d : Int) * 2 ^ (64 - b))) hx0 hx1 bb w h
  rw [← hU] at hUi hS hc hF
  rw [← hlp] at hS
  have HS := Lib.hid hS
  have hL := fun w => Tryz.bits_Len64 (d : Int) w (by omega) (by omega)
  have hdd : ((d : Int)).toNat = d := by omega
  rw [hdd, hbd] at hL
  have hL2 := fun w => l2_run p (by omega) (by omega) w
  rw [← hlp] at hL2
  have HL := Lib.hid hL
  have HL2 := Lib.hid hL2
  have hmin : min 1074 (53 - (b : Int) - lp) = e := he.symm
  have hfar2 : decide (64 ≤ -(e - (64 - (b : Int)) + lp + 3)) = false := by simpa using hfar
  have hnn : (64 - (b : Int)).toNat = 64 - b := by omega
  clear hL hL2 hlp hdd hbd he hU hS
  obtain ⟨x, hxe⟩ : ∃ x, IntKind.u64.wrap ((d : Int) * 2 ^ (64 - b)) = x := ⟨_, rfl⟩
  rw [hxe] at hx0 hx1 HS
  have HXE := Lib.hid hxe
  clear hxe
  have hcb : decide (36028797018963966 ≤ U) = false := by simpa using hc
  have HF := Lib.hid hF
  clear hF
  intro w hp hw
  have HP := Lib.hid hp
  have HW := Lib.hid hw
  clear hp hw
  go_enter Tryz.func251, Tryz.ntmps251
  go_wp2_with (first | (go_at_call 201; refine (HL.out _).mono ?_; rintro r w1 ⟨rfl, rfl⟩) | (go_at_call 223; refine (HL2.out _).mono ?_; rintro r w1 ⟨rfl, rfl⟩) | (go_at_call 222; refine (prescale_run w1.heap.size _ _ _ (e - (64 - (b : Int))) p lp _ (HP.out.keep (below_alloc w1 _) HW.out) (by omega) (by omega) (by omega) (by omega) hl0 hl1 HW.out (by simp; rfl) (by simp; rfl) (by simp; rfl) (by simp) (by simp) (by simp)).mono ?_; rintro r w2 ⟨rfl, hb2, p0, p1, p2⟩; have hPre := Pre.mk (w := w2) (b := w1.heap.size) (by have h := hb2.size; simp at h; omega) p0 p1 p2; have hB2 := Below.trans (below_alloc w1 _) hb2) | (go_at_call 224; rw [HXE.out]; refine (HS.out _ _ hPre).mono ?_; rintro r w3 ⟨rfl, hb3⟩; have hB3 := belowOn hB2 hb3) | (go_at_call 229; refine (unmin_run _ _).mono ?_; rintro r w4 ⟨rfl, rfl⟩) | (go_at_call 210; refine (Tryz.internal_strconv_bool2_int false _).mono ?_; rintro r w5 ⟨rfl, rfl⟩) | (go_at_call 228; refine (round_run _ _).mono ?_; rintro r w6 ⟨rfl, rfl⟩) | (go_at_call 260; refine (HF.out _).mono ?_; rintro r w7 ⟨rfl, rfl⟩))
  all_goals go_ret2
  all_goals exact ⟨rfl, hB3⟩
theorem pack32_any (m e : Int) (hm0 : 0 ≤ m) (hm1 : m < 4294967296) (he0 : -3000 ≤ e) (he1 : e ≤ 3000) : ∃ (f : Nat) (b : Bool), f < 4294967296 ∧ ∀ w, Calls Tryz.prog 258 #[.int .u32 m, .int .i64 e] w fun r w' => r = .returned (.tuple #[.float .f32 f, erV b]) ∧ w' = w := by
  obtain ⟨n0, hn0⟩ := nat_of m hm0
  cases h0 : (bits .and .u32 m 8388608 == 0) with
  | true =>
    refine ⟨n0, false, by omega, fun w => ?_⟩
    have hb := fun w => frombits32 n0 w
    subst hn0
    go_enter Tryz.func258, Tryz.ntmps258
    go_wp2
    go_ret2
    exact ⟨rfl, rfl⟩
  | false =>
    by_cases he : 105 ≤ e
    · obtain ⟨n1, hn1⟩ := nat_of (bits .or .u32 (bits .and .u32 m 2147483648) 2139095040) (or_in32 _ _).1
      have hb1 : (n1 : Int) < 4294967296 := by rw [← hn1]; exact (or_in32 _ _).2
      refine ⟨n1, true, by omega, fun w => ?_⟩
      clear hb1
      have hb := fun w => frombits32 n1 w
      clear hn0
      go_enter Tryz.func258, Tryz.ntmps258
      go_wp2
      go_ret2
      exact ⟨rfl, rfl⟩
    · obtain ⟨n1, hn1⟩ := nat_of (bits .or .u32 (bits .andNot .u32 m 8388608) ((150 + e) % 4294967296 * 8388608 % 4294967296)) (or_in32 _ _).1
      have hb1 : (n1 : Int) < 4294967296 := by rw [← hn1]; exact (or_in32 _ _).2
      refine ⟨n1, false, by omega, fun w => ?_⟩
      clear hb1
      have hb := fun w => frombits32 n1 w
      clear hn0
      go_enter Tryz.func258, Tryz.ntmps258
      go_wp2
      go_ret2
      exact ⟨rfl, rfl⟩
set_option maxHeartbeats 2000000 in
theorem pf32_far (d : Nat) (hd : d < 18446744073709551616) (p sign : Int) (hp0 : -70 ≤ p) (hp1 : p ≤ 40) (hs0 : 0 ≤ sign) (hs1 : sign < 4294967296) (b : Nat) (hb : b ≤ 64) (hbd : Lib.bitLen d = b) (lp e : Int) (hlp : lp = p * 108853 / 32768) (he : e = min 149 (24 - (b : Int) - lp)) (hfar : 64 ≤ -(e - (64 - (b : Int)) + lp + 3)) :
    ∃ (f : Nat) (er : Bool), f < 4294967296 ∧ ∀ w, PowAt w → 8 ≤ w.heap.size → Calls Tryz.prog 245 #[.int .u64 d, .int .i64 p, .int .u32 sign] w fun r w' => r = .returned (.tuple #[.float .f32 f, erV er]) ∧ Below w.heap.size w w' := by
  have hor : bits .or .u32 sign 0 = sign := by
    obtain ⟨n, rfl⟩ := nat_of sign hs0
    have h : bits BinOp.or IntKind.u32 (n : Int) 0 = IntKind.u32.wrap ((BitVec.ofInt 32 (n : Int) ||| BitVec.ofInt 32 0).toNat : Nat) := rfl
    rw [h, IntKind.wrap_u32, BitVec.toNat_or, BitVec.toNat_ofInt, BitVec.toNat_ofInt]
    simp
    omega
  obtain ⟨n0, hn0⟩ := nat_of sign hs0
  refine ⟨n0, false, by omega, fun w hp hw => ?_⟩
  subst hn0
  have hfb := fun w => frombits32 n0 w
  have hL := fun w => Tryz.bits_Len64 (d : Int) w (by omega) (by omega)
  have hdd : ((d : Int)).toNat = d := by omega
  rw [hdd, hbd] at hL
  have hL2 := fun w => l2_run p (by omega) (by omega) w
  rw [← hlp] at hL2
  have hl0 : -2000 ≤ lp := by omega
  have hl1 : lp ≤ 2000 := by omega
  have he0 : -400 ≤ e := by omega
  have he1 : e ≤ 149 := by omega
  have HL := Lib.hid hL
  have HL2 := Lib.hid hL2
  have HP := Lib.hid hp
  have HW := Lib.hid hw
  have hmin : min 149 (24 - (b : Int) - lp) = e := he.symm
  have hfar2 : decide (64 ≤ -(e - (64 - (b : Int)) + lp + 3)) = true := by simpa using hfar
  clear hL hL2 hp hw hlp hdd hbd he
  go_enter Tryz.func245, Tryz.ntmps245
  go_wp2_with (first | (go_at_call 201; refine (HL.out _).mono ?_; rintro r w1 ⟨rfl, rfl⟩) | (go_at_call 223; refine (HL2.out _).mono ?_; rintro r w1 ⟨rfl, rfl⟩) | (go_at_call 222; refine (prescale_run w1.heap.size _ _ _ (e - (64 - (b : Int))) p lp _ (HP.out.keep (below_alloc w1 _) HW.out) (by omega) (by omega) (by omega) (by omega) hl0 hl1 HW.out (by simp; rfl) (by simp; rfl) (by simp; rfl) (by simp) (by simp) (by simp)).mono ?_; rintro r w2 ⟨rfl, hb2, p0, p1, p2⟩; have hB2 := Below.trans (below_alloc w1 _) hb2))
  go_ret2
  exact ⟨rfl, hB2⟩
set_option maxHeartbeats 2000000 in
theorem pf32_hi (d : Nat) (hd : d < 18446744073709551616) (p sign : Int) (hp0 : -70 ≤ p) (hp1 : p ≤ 40) (hs0 : 0 ≤ sign) (hs1 : sign < 4294967296) (b : Nat) (hb : b ≤ 64) (hbd : Lib.bitLen d = b) (lp e : Int) (hlp : lp = p * 108853 / 32768) (he : e = min 149 (24 - (b : Int) - lp)) (hfar : ¬ 64 ≤ -(e - (64 - (b : Int)) + lp + 3)) (f : Nat) (er : Bool) (hc : 67108862 ≤ scl (e - (64 - (b : Int))) p (IntKind.u64.wrap ((d : Int) * 2 ^ (64 - b)))) (hF : ∀ w, Calls Tryz.prog 258 #[.int .u32 (bits BinOp.or IntKind.u32 sign (rnd (bits BinOp.or IntKind.u64 (scl (e - (64 - (b : Int))) p (IntKind.u64.wrap ((d : Int) * 2 ^ (64 - b))) / 2) (bits BinOp.and IntKind.u64 (scl (e - (64 - (b : Int))) p (IntKind.u64.wrap ((d : Int) * 2 ^ (64 - b)))) 1)) % 4294967296)), .int .i64 (-(e - 1))] w fun r w' => r = .returned (.tuple #[.float .f32 f, erV er]) ∧ w' = w) :
    ∀ w, PowAt w → 8 ≤ w.heap.size → Calls Tryz.prog 245 #[.int .u64 d, .int .i64 p, .int .u32 sign] w fun r w' => r = .returned (.tuple #[.float .f32 f, erV er]) ∧ Below w.heap.size w w' := by
  have hl0 : -2000 ≤ lp := by omega
  have hl1 : lp ≤ 2000 := by omega
  have he0 : -400 ≤ e := by omega
  have he1 : e ≤ 149 := by omega
  have hx0 := (u64_in2 ((d : Int) * 2 ^ (64 - b))).1
  have hx1 := (u64_in2 ((d : Int) * 2 ^ (64 - b))).2
  obtain ⟨U, hU⟩ : ∃ U, U = scl (e - (64 - (b : Int))) p (IntKind.u64.wrap ((d : Int) * 2 ^ (64 - b))) := ⟨_, rfl⟩
  have hUi := scl_in (e - (64 - (b : Int))) p (IntKind.u64.wrap ((d : Int) * 2 ^ (64 - b)))
  have hS := fun bb w h => scl_run (e - (64 - (b : Int))) p (IntKind.u64.wrap ((d : Int) * 2 ^ (64 - b))) hx0 hx1 bb w h
  rw [← hU] at hUi hS hc hF
  rw [← hlp] at hS
  have HS := Lib.hid hS
  have hL := fun w => Tryz.bits_Len64 (d : Int) w (by omega) (by omega)
  have hdd : ((d : Int)).toNat = d := by omega
  rw [hdd, hbd] at hL
  have hL2 := fun w => l2_run p (by omega) (by omega) w
  rw [← hlp] at hL2
  have HL := Lib.hid hL
  have HL2 := Lib.hid hL2
  have hmin : min 149 (24 - (b : Int) - lp) = e := he.symm
  have hfar2 : decide (64 ≤ -(e - (64 - (b : Int)) + lp + 3)) = false := by simpa using hfar
  have hnn : (64 - (b : Int)).toNat = 64 - b := by omega
  clear hL hL2 hlp hdd hbd he hU hS
  obtain ⟨x, hxe⟩ : ∃ x, IntKind.u64.wrap ((d : Int) * 2 ^ (64 - b)) = x := ⟨_, rfl⟩
  rw [hxe] at hx0 hx1 HS
  have HXE := Lib.hid hxe
  clear hxe
  have hcb : decide (67108862 ≤ U) = true := by simpa using hc
  have HF := Lib.hid hF
  clear hF
  intro w hp hw
  have HP := Lib.hid hp
  have HW := Lib.hid hw
  clear hp hw
  go_enter Tryz.func245, Tryz.ntmps245
  go_wp2_with (first | (go_at_call 201; refine (HL.out _).mono ?_; rintro r w1 ⟨rfl, rfl⟩) | (go_at_call 223; refine (HL2.out _).mono ?_; rintro r w1 ⟨rfl, rfl⟩) | (go_at_call 222; refine (prescale_run w1.heap.size _ _ _ (e - (64 - (b : Int))) p lp _ (HP.out.keep (below_alloc w1 _) HW.out) (by omega) (by omega) (by omega) (by omega) hl0 hl1 HW.out (by simp; rfl) (by simp; rfl) (by simp; rfl) (by simp) (by simp) (by simp)).mono ?_; rintro r w2 ⟨rfl, hb2, p0, p1, p2⟩; have hPre := Pre.mk (w := w2) (b := w1.heap.size) (by have h := hb2.size; simp at h; omega) p0 p1 p2; have hB2 := Below.trans (below_alloc w1 _) hb2) | (go_at_call 224; rw [HXE.out]; refine (HS.out _ _ hPre).mono ?_; rintro r w3 ⟨rfl, hb3⟩; have hB3 := belowOn hB2 hb3) | (go_at_call 229; refine (unmin_run _ _).mono ?_; rintro r w4 ⟨rfl, rfl⟩) | (go_at_call 210; refine (Tryz.internal_strconv_bool2_int true _).mono ?_; rintro r w5 ⟨rfl, rfl⟩) | (go_at_call 228; refine (round_run _ _).mono ?_; rintro r w6 ⟨rfl, rfl⟩) | (go_at_call 258; refine (HF.out _).mono ?_; rintro r w7 ⟨rfl, rfl⟩))
  all_goals go_ret2
  all_goals exact ⟨rfl, hB3⟩
set_option maxHeartbeats 2000000 in
theorem pf32_lo (d : Nat) (hd : d < 18446744073709551616) (p sign : Int) (hp0 : -70 ≤ p) (hp1 : p ≤ 40) (hs0 : 0 ≤ sign) (hs1 : sign < 4294967296) (b : Nat) (hb : b ≤ 64) (hbd : Lib.bitLen d = b) (lp e : Int) (hlp : lp = p * 108853 / 32768) (he : e = min 149 (24 - (b : Int) - lp)) (hfar : ¬ 64 ≤ -(e - (64 - (b : Int)) + lp + 3)) (f : Nat) (er : Bool) (hc : ¬ 67108862 ≤ scl (e - (64 - (b : Int))) p (IntKind.u64.wrap ((d : Int) * 2 ^ (64 - b)))) (hF : ∀ w, Calls Tryz.prog 258 #[.int .u32 (bits BinOp.or IntKind.u32 sign (rnd (bits BinOp.or IntKind.u64 (scl (e - (64 - (b : Int))) p (IntKind.u64.wrap ((d : Int) * 2 ^ (64 - b)))) (bits BinOp.and IntKind.u64 (scl (e - (64 - (b : Int))) p (IntKind.u64.wrap ((d : Int) * 2 ^ (64 - b)))) 1)) % 4294967296)), .int .i64 (-e)] w fun r w' => r = .returned (.tuple #[.float .f32 f, erV er]) ∧ w' = w) :
    ∀ w, PowAt w → 8 ≤ w.heap.size → Calls Tryz.prog 245 #[.int .u64 d, .int .i64 p, .int .u32 sign] w fun r w' => r = .returned (.tuple #[.float .f32 f, erV er]) ∧ Below w.heap.size w w' := by
  have hl0 : -2000 ≤ lp := by omega
  have hl1 : lp ≤ 2000 := by omega
  have he0 : -400 ≤ e := by omega
  have he1 : e ≤ 149 := by omega
  have hx0 := (u64_in2 ((d : Int) * 2 ^ (64 - b))).1
  have hx1 := (u64_in2 ((d : Int) * 2 ^ (64 - b))).2
  obtain ⟨U, hU⟩ : ∃ U, U = scl (e - (64 - (b : Int))) p (IntKind.u64.wrap ((d : Int) * 2 ^ (64 - b))) := ⟨_, rfl⟩
  have hUi := scl_in (e - (64 - (b : Int))) p (IntKind.u64.wrap ((d : Int) * 2 ^ (64 - b)))
  have hS := fun bb w h => scl_run (e - (64 - (b : Int))) p (IntKind.u64.wrap ((d : Int) * 2 ^ (64 - b))) hx0 hx1 bb w h
  rw [← hU] at hUi hS hc hF
  rw [← hlp] at hS
  have HS := Lib.hid hS
  have hL := fun w => Tryz.bits_Len64 (d : Int) w (by omega) (by omega)
  have hdd : ((d : Int)).toNat = d := by omega
  rw [hdd, hbd] at hL
  have hL2 := fun w => l2_run p (by omega) (by omega) w
  rw [← hlp] at hL2
  have HL := Lib.hid hL
  have HL2 := Lib.hid hL2
  have hmin : min 149 (24 - (b : Int) - lp) = e := he.symm
  have hfar2 : decide (64 ≤ -(e - (64 - (b : Int)) + lp + 3)) = false := by simpa using hfar
  have hnn : (64 - (b : Int)).toNat = 64 - b := by omega
  clear hL hL2 hlp hdd hbd he hU hS
  obtain ⟨x, hxe⟩ : ∃ x, IntKind.u64.wrap ((d : Int) * 2 ^ (64 - b)) = x := ⟨_, rfl⟩
  rw [hxe] at hx0 hx1 HS
  have HXE := Lib.hid hxe
  clear hxe
  have hcb : decide (67108862 ≤ U) = false := by simpa using hc
  have HF := Lib.hid hF
  clear hF
  intro w hp hw
  have HP := Lib.hid hp
  have HW := Lib.hid hw
  clear hp hw
  go_enter Tryz.func245, Tryz.ntmps245
  go_wp2_with (first | (go_at_call 201; refine (HL.out _).mono ?_; rintro r w1 ⟨rfl, rfl⟩) | (go_at_call 223; refine (HL2.out _).mono ?_; rintro r w1 ⟨rfl, rfl⟩) | (go_at_call 222; refine (prescale_run w1.heap.size _ _ _ (e - (64 - (b : Int))) p lp _ (HP.out.keep (below_alloc w1 _) HW.out) (by omega) (by omega) (by omega) (by omega) hl0 hl1 HW.out (by simp; rfl) (by simp; rfl) (by simp; rfl) (by simp) (by simp) (by simp)).mono ?_; rintro r w2 ⟨rfl, hb2, p0, p1, p2⟩; have hPre := Pre.mk (w := w2) (b := w1.heap.size) (by have h := hb2.size; simp at h; omega) p0 p1 p2; have hB2 := Below.trans (below_alloc w1 _) hb2) | (go_at_call 224; rw [HXE.out]; refine (HS.out _ _ hPre).mono ?_; rintro r w3 ⟨rfl, hb3⟩; have hB3 := belowOn hB2 hb3) | (go_at_call 229; refine (unmin_run _ _).mono ?_; rintro r w4 ⟨rfl, rfl⟩) | (go_at_call 210; refine (Tryz.internal_strconv_bool2_int false _).mono ?_; rintro r w5 ⟨rfl, rfl⟩) | (go_at_call 228; refine (round_run _ _).mono ?_; rintro r w6 ⟨rfl, rfl⟩) | (go_at_call 258; refine (HF.out _).mono ?_; rintro r w7 ⟨rfl, rfl⟩))
  all_goals go_ret2
  all_goals exact ⟨rfl, hB3⟩
/-- internal/strconv.parseFloat32: total; its float and error hang on its arguments alone. -/
theorem pf32_any (d : Int) (hd0 : 0 ≤ d) (hd : d < 18446744073709551616) (p sign : Int) (hp0 : -70 ≤ p) (hp1 : p ≤ 40) (hs0 : 0 ≤ sign) (hs1 : sign < 4294967296) :
    ∃ (f : Nat) (er : Bool), f < 4294967296 ∧ ∀ w, PowAt w → 8 ≤ w.heap.size → Calls Tryz.prog 245 #[.int .u64 d, .int .i64 p, .int .u32 sign] w fun r w' => r = .returned (.tuple #[.float .f32 f, erV er]) ∧ Below w.heap.size w w' := by
  obtain ⟨n, rfl⟩ := nat_of d hd0
  have hn : n < 18446744073709551616 := by omega
  have hb : Lib.bitLen n ≤ 64 := Lib.bitLen_le n 64 (by omega) (by omega)
  obtain ⟨b, hbe⟩ : ∃ b, b = Lib.bitLen n := ⟨_, rfl⟩
  rw [← hbe] at hb
  obtain ⟨lp, hlp⟩ : ∃ lp, lp = p * 108853 / 32768 := ⟨_, rfl⟩
  obtain ⟨e, he⟩ : ∃ e, e = min 149 (24 - (b : Int) - lp) := ⟨_, rfl⟩
  by_cases hfar : 64 ≤ -(e - (64 - (b : Int)) + lp + 3)
  · exact pf32_far n hn p sign hp0 hp1 hs0 hs1 b hb hbe.symm lp e hlp he hfar
  · by_cases hc : 67108862 ≤ scl (e - (64 - (b : Int))) p (IntKind.u64.wrap ((n : Int) * 2 ^ (64 - b)))
    · obtain ⟨f, er, hf, hF⟩ := pack32_any (bits BinOp.or IntKind.u32 sign (rnd (bits BinOp.or IntKind.u64 (scl (e - (64 - (b : Int))) p (IntKind.u64.wrap ((n : Int) * 2 ^ (64 - b))) / 2) (bits BinOp.and IntKind.u64 (scl (e - (64 - (b : Int))) p (IntKind.u64.wrap ((n : Int) * 2 ^ (64 - b)))) 1)) % 4294967296)) (-(e - 1)) (or_in32 _ _).1 (or_in32 _ _).2 (by omega) (by omega)
      exact ⟨f, er, hf, pf32_hi n hn p sign hp0 hp1 hs0 hs1 b hb hbe.symm lp e hlp he hfar f er hc hF⟩
    · obtain ⟨f, er, hf, hF⟩ := pack32_any (bits BinOp.or IntKind.u32 sign (rnd (bits BinOp.or IntKind.u64 (scl (e - (64 - (b : Int))) p (IntKind.u64.wrap ((n : Int) * 2 ^ (64 - b)))) (bits BinOp.and IntKind.u64 (scl (e - (64 - (b : Int))) p (IntKind.u64.wrap ((n : Int) * 2 ^ (64 - b)))) 1)) % 4294967296)) (-e) (or_in32 _ _).1 (or_in32 _ _).2 (by omega) (by omega)
      exact ⟨f, er, hf, pf32_lo n hn p sign hp0 hp1 hs0 hs1 b hb hbe.symm lp e hlp he hfar f er hc hF⟩
end Go.Proofs.YtnggkkdcddpjlaaGreatDoor
namespace Go.Proofs.YtnggkkdcddpjlaaGreatDoor
open Go.RowKit
set_option linter.unusedVariables false
set_option maxRecDepth 100000
/-- The scale is high enough where the value is no less than half the least float. -/
theorem not_far (d : Nat) (b : Nat) (hd : d < 2 ^ b) (p : Int) (hp0 : -348 ≤ p) (hp1 : p ≤ 347) (L : Int) (h : (2 : Rat) ^ (L - 1) ≤ (d : Rat) * (10 : Rat) ^ p) : L - 1 ≤ b + lpw p := by
  obtain ⟨l1, l2⟩ := lp_at p hp0 hp1
  refine Decidable.byContradiction fun hc => ?_
  have tp : (0 : Rat) < (10 : Rat) ^ p := Rat.zpow_pos (by decide)
  have tl := two_pos (lpw p)
  have tb := two_pos (b : Int)
  have d1 : (d : Rat) ≤ (2 : Rat) ^ (b : Int) := by
    have := Rat.natCast_le_natCast.2 (Nat.le_of_lt hd)
    rw [cast_pow, ← Rat.zpow_natCast] at this
    exact this
  have h1 : (d : Rat) * (10 : Rat) ^ p ≤ (2 : Rat) ^ (b : Int) * (10 : Rat) ^ p := Rat.mul_le_mul_of_nonneg_right d1 (Rat.le_of_lt tp)
  have h2 : (10 : Rat) ^ p < 2 * (2 : Rat) ^ (lpw p) := by grind
  have h3 := Rat.mul_lt_mul_of_pos_left h2 tb
  have h4 : (2 : Rat) ^ (b : Int) * (2 * (2 : Rat) ^ (lpw p)) = 2 * (2 : Rat) ^ ((b : Int) + lpw p) := by
    rw [Rat.zpow_add (by decide)]
    grind
  have h5 := two_ge (L - 2) ((b : Int) + lpw p) (by omega)
  have h6 : (2 : Rat) ^ (L - 1) = 2 * (2 : Rat) ^ (L - 2) := by
    have : L - 1 = L - 2 + 1 := by omega
    rw [this, Rat.zpow_add (by decide)]
    have : (2 : Rat) ^ (1 : Int) = 2 := by decide
    rw [this, Rat.mul_comm]
  grind
theorem half_least (V : Rat) (M k L : Int) (hM : 0 < M) (hk : L ≤ k) (hR : Rounds (V * (2 : Rat) ^ (-k)) M) : (2 : Rat) ^ (L - 1) ≤ V := by
  have lo := rounds_lo hR
  have m1 : (1 : Rat) ≤ (M : Rat) := by
    have : ((1 : Int) : Rat) ≤ (M : Rat) := Rat.intCast_le_intCast.2 (by omega)
    exact this
  have tk := two_pos k
  have h1 : (1 : Rat) / 2 ≤ V * (2 : Rat) ^ (-k) := by grind
  have h2 := Rat.mul_le_mul_of_nonneg_right h1 (Rat.le_of_lt tk)
  have h3 : V * (2 : Rat) ^ (-k) * (2 : Rat) ^ k = V := by
    rw [Rat.mul_assoc, ← Rat.zpow_add (by decide)]
    have : -k + k = 0 := by omega
    rw [this]
    have : (2 : Rat) ^ (0 : Int) = 1 := by decide
    rw [this, Rat.mul_one]
  rw [h3] at h2
  have h4 := two_ge (k - 1) (L - 1) (by omega)
  have h5 : (2 : Rat) ^ k = 2 * (2 : Rat) ^ (k - 1) := by
    have : k = k - 1 + 1 := by omega
    conv => lhs; rw [this]
    rw [Rat.zpow_add (by decide)]
    have : (2 : Rat) ^ (1 : Int) = 2 := by decide
    rw [this, Rat.mul_comm]
  grind
set_option maxHeartbeats 1000000 in
/-- parseFloat64 answers the float to which the text rounds. -/
theorem pf64_word (d : Nat) (hd0 : 0 < d) (hd : d < 144115188075855872) (p : Int) (hp0 : -345 ≤ p) (hp1 : p ≤ 310) (ng : Bool) (M : Nat) (k : Int) (hM0 : 0 < M) (hM1 : M < 9007199254740992) (hk : -1074 ≤ k) (hn : 4503599627370496 ≤ M ∨ k = -1074)
    (hfin : (k + 1074).toNat * 4503599627370496 + M < FloatKind.f64.format.infRung) (hR : Rounds ((d : Rat) * (10 : Rat) ^ p * (2 : Rat) ^ (-k)) M) (hl : (M : Int) = 4503599627370496 → -1074 < k → 4 * (((M : Nat) : Int) : Rat) - 1 ≤ 4 * ((d : Rat) * (10 : Rat) ^ p * (2 : Rat) ^ (-k)))
    (w : World) (hp : PowAt w) (hw : 8 ≤ w.heap.size) :
    Calls Tryz.prog 251 #[.int .u64 d, .int .i64 p, .int .u64 (sgW 9223372036854775808 ng)] w fun r w' => r = .returned (.tuple #[.float .f64 (FloatKind.f64.format.word ng ((k + 1074).toNat * 4503599627370496 + M)), erV false]) ∧ Below w.heap.size w w' := by
  obtain ⟨b, hb⟩ : ∃ b, b = Lib.bitLen d := ⟨_, rfl⟩
  obtain ⟨hb0, hb1, hb2⟩ := Lib.bitLenAux_bounds 64 d (by omega) (by omega)
  have hbe : Lib.bitLenAux 64 d = b := hb.symm
  rw [hbe] at hb0 hb1 hb2
  have hb57 : b ≤ 57 := by rw [hb]; exact Lib.bitLen_le d 57 (by omega) hd
  obtain ⟨e, he⟩ : ∃ e, e = min 1074 (53 - (b : Int) - lpw p) := ⟨_, rfl⟩
  have hvl := half_least _ _ k (-1074) (by omega) hk hR
  have hnf := not_far d b hb2 p (by omega) (by omega) (-1074) hvl
  have hs : -63 ≤ e - (64 - (b : Int)) + lpw p + 3 := by omega
  have hU := pa_unr d p e b hd0 hb57 hb2 (by omega) (by omega) (by omega) hs
  obtain ⟨bx1, bx2⟩ := pa_bounds d p e b hb0 hb1 hb2 (by omega) (by omega) he
  obtain ⟨V, hV⟩ : ∃ V, V = (d : Rat) * (10 : Rat) ^ p := ⟨_, rfl⟩
  rw [← hV] at hU bx1 bx2 hR hl
  have hXY : V * (2 : Rat) ^ e = V * (2 : Rat) ^ (-k) * (2 : Rat) ^ (k + e) := by
    rw [Rat.mul_assoc, ← Rat.zpow_add (by decide)]
    congr 2
    omega
  have hwr : IntKind.u64.wrap ((d : Int) * 2 ^ (64 - b)) = ((d * 2 ^ (64 - b) : Nat) : Int) := by
    have h1 : d * 2 ^ (64 - b) < 2 ^ b * 2 ^ (64 - b) := Nat.mul_lt_mul_of_pos_right hb2 (Nat.two_pow_pos _)
    rw [← Nat.pow_add] at h1
    have h2 : b + (64 - b) = 64 := by omega
    have h3 : (2 : Nat) ^ 64 = 18446744073709551616 := by decide
    rw [h2, h3] at h1
    have h4 : (d : Int) * 2 ^ (64 - b) = ((d * 2 ^ (64 - b) : Nat) : Int) := by rw [Int.natCast_mul, Int.natCast_pow]; rfl
    rw [h4]
    generalize d * 2 ^ (64 - b) = x at h1
    rw [IntKind.wrap_u64]
    omega
  have hin := (scl_in (e - (64 - (b : Int))) p ((d * 2 ^ (64 - b) : Nat) : Int)).1
  obtain ⟨w1, w2⟩ := pa_word _ (V * (2 : Rat) ^ e) (V * (2 : Rat) ^ (-k)) M k e hU hin (by omega) (by omega) hk (by omega) (by omega) hXY hR hl bx1 bx2
  rw [← hwr] at w1 w2
  have hlp : lpw p = p * 108853 / 32768 := rfl
  have hpk := fun w => pack64_at ng M k hM0 hM1 hk hn hfin w
  have hsg : (0 : Int) ≤ (sgW 9223372036854775808 ng : Nat) ∧ ((sgW 9223372036854775808 ng : Nat) : Int) < 18446744073709551616 := by
    unfold sgW
    cases ng <;> decide
  by_cases hc : 36028797018963966 ≤ scl (e - (64 - (b : Int))) p (IntKind.u64.wrap ((d : Int) * 2 ^ (64 - b)))
  · obtain ⟨c1, c2⟩ := w1 hc
    refine pf64_hi d (by omega) p _ hp0 hp1 hsg.1 hsg.2 b (by omega) hb.symm (lpw p) e hlp he (by omega) _ _ hc ?_ w hp hw
    intro w
    rw [c1, c2]
    exact hpk w
  · obtain ⟨c1, c2⟩ := w2 hc
    refine pf64_lo d (by omega) p _ hp0 hp1 hsg.1 hsg.2 b (by omega) hb.symm (lpw p) e hlp he (by omega) _ _ hc ?_ w hp hw
    intro w
    rw [c1, c2]
    exact hpk w
end Go.Proofs.YtnggkkdcddpjlaaGreatDoor
