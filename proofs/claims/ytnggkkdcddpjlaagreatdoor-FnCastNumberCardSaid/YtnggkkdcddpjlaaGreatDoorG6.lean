/- internal/strconv.pack64, parseFloat64: total, and their answers hang on their arguments alone. -/
import Derived.Test.YtnggkkdcddpjlaaGreatDoorD2
namespace Go.Proofs.YtnggkkdcddpjlaaGreatDoor
open Go.RowKit
set_option maxRecDepth 100000
set_option linter.unusedVariables false
theorem frombits64 (n : Nat) (w : World) : (callFunc 249 #[.int .u64 (n : Int)]).run Tryz.prog w = .ok (.value (.float .f64 n)) w := by kernel_rfl
/-- An error, or none. -/
def erV (b : Bool) : Value := if b then .iface 257 (.int .i64 1) else .nilIface
theorem nat_of (x : Int) (h : 0 ≤ x) : ∃ n : Nat, x = n := ⟨x.toNat, by omega⟩
theorem pack64_any (m e : Int) (hm0 : 0 ≤ m) (hm1 : m < 18446744073709551616) (he0 : -3000 ≤ e) (he1 : e ≤ 3000) : ∃ (f : Nat) (b : Bool), ∀ w, Calls Tryz.prog 260 #[.int .u64 m, .int .i64 e] w fun r w' => r = .returned (.tuple #[.float .f64 f, erV b]) ∧ w' = w := by
  obtain ⟨n0, hn0⟩ := nat_of m hm0
  cases h0 : (bits .and .u64 m 4503599627370496 == 0) with
  | true =>
    refine ⟨n0, false, fun w => ?_⟩
    have hb := fun w => frombits64 n0 w
    subst hn0
    go_enter Tryz.func260, Tryz.ntmps260
    go_wp2
    go_ret2
    exact ⟨rfl, rfl⟩
  | false =>
    by_cases he : 972 ≤ e
    · obtain ⟨n1, hn1⟩ := nat_of (bits .or .u64 (bits .and .u64 m 9223372036854775808) 9218868437227405312) (or_in _ _).1
      refine ⟨n1, true, fun w => ?_⟩
      have hb := fun w => frombits64 n1 w
      clear hn0
      go_enter Tryz.func260, Tryz.ntmps260
      go_wp2
      go_ret2
      exact ⟨rfl, rfl⟩
    · obtain ⟨n1, hn1⟩ := nat_of (bits .or .u64 (bits .andNot .u64 m 4503599627370496) (IntKind.u64.wrap (IntKind.u64.wrap (1075 + e) * 4503599627370496))) (or_in _ _).1
      refine ⟨n1, false, fun w => ?_⟩
      have hb := fun w => frombits64 n1 w
      clear hn0
      go_enter Tryz.func260, Tryz.ntmps260
      go_wp2
      go_ret2
      exact ⟨rfl, rfl⟩
theorem unmin_run (x : Int) (w : World) : Calls Tryz.prog 229 #[.int .u64 x] w fun e w' => e = .returned (.int .u64 (IntKind.u64.wrap (IntKind.u64.wrap (x * 4) - 2))) ∧ w' = w := by
  go_enter Tryz.func229, Tryz.ntmps229
  go_wp2
  go_ret
  exact ⟨rfl, rfl⟩
theorem u64_in2 (z : Int) : 0 ≤ IntKind.u64.wrap z ∧ IntKind.u64.wrap z < 18446744073709551616 := by rw [IntKind.wrap_u64]; omega
theorem round_in (x : Int) : 0 ≤ rnd x ∧ rnd x < 18446744073709551616 := by
  have h := u64_in2 (IntKind.u64.wrap (x + 1) + bits BinOp.and IntKind.u64 (x / 4) 1)
  unfold rnd
  omega
set_option maxHeartbeats 2000000 in
theorem pf64_far (d : Nat) (hd : d < 18446744073709551616) (p sign : Int) (hp0 : -345 ≤ p) (hp1 : p ≤ 310) (hs0 : 0 ≤ sign) (hs1 : sign < 18446744073709551616) (b : Nat) (hb : b ≤ 64) (hbd : Lib.bitLen d = b) (lp e : Int) (hlp : lp = p * 108853 / 32768) (he : e = min 1074 (53 - (b : Int) - lp)) (hfar : 64 ≤ -(e - (64 - (b : Int)) + lp + 3)) :
    ∃ (f : Nat) (er : Bool), ∀ w, PowAt w → 8 ≤ w.heap.size → Calls Tryz.prog 251 #[.int .u64 d, .int .i64 p, .int .u64 sign] w fun r w' => r = .returned (.tuple #[.float .f64 f, erV er]) ∧ Below w.heap.size w w' := by
  have hor : bits .or .u64 sign 0 = sign := by
    obtain ⟨n, rfl⟩ := nat_of sign hs0
    have h : bits BinOp.or IntKind.u64 (n : Int) 0 = IntKind.u64.wrap ((BitVec.ofInt 64 (n : Int) ||| BitVec.ofInt 64 0).toNat : Nat) := rfl
    rw [h, IntKind.wrap_u64, BitVec.toNat_or, BitVec.toNat_ofInt, BitVec.toNat_ofInt]
    simp
    omega
  obtain ⟨n0, hn0⟩ := nat_of sign hs0
  refine ⟨n0, false, fun w hp hw => ?_⟩
  subst hn0
  have hfb := fun w => frombits64 n0 w
  have hL := fun w => Tryz.bits_Len64 (d : Int) w (by omega) (by omega)
  have hdd : ((d : Int)).toNat = d := by omega
  rw [hdd, hbd] at hL
  have hL2 := fun w => l2_run p (by omega) (by omega) w
  rw [← hlp] at hL2
  have hl0 : -2000 ≤ lp := by omega
  have hl1 : lp ≤ 2000 := by omega
  have he0 : -1100 ≤ e := by omega
  have he1 : e ≤ 1074 := by omega
  have HL := Lib.hid hL
  have HL2 := Lib.hid hL2
  have HP := Lib.hid hp
  have HW := Lib.hid hw
  have hmin : min 1074 (53 - (b : Int) - lp) = e := he.symm
  have hfar2 : decide (64 ≤ -(e - (64 - (b : Int)) + lp + 3)) = true := by simpa using hfar
  clear hL hL2 hp hw hlp hdd hbd he
  go_enter Tryz.func251, Tryz.ntmps251
  go_wp2_with (first | (go_at_call 201; refine (HL.out _).mono ?_; rintro r w1 ⟨rfl, rfl⟩) | (go_at_call 223; refine (HL2.out _).mono ?_; rintro r w1 ⟨rfl, rfl⟩) | (go_at_call 222; refine (prescale_run w1.heap.size _ _ _ (e - (64 - (b : Int))) p lp _ (HP.out.keep (below_alloc w1 _) HW.out) (by omega) (by omega) (by omega) (by omega) hl0 hl1 HW.out (by simp; rfl) (by simp; rfl) (by simp; rfl) (by simp) (by simp) (by simp)).mono ?_; rintro r w2 ⟨rfl, hb2, p0, p1, p2⟩; have hB2 := Below.trans (below_alloc w1 _) hb2))
  go_ret2
  exact ⟨rfl, hB2⟩
set_option maxHeartbeats 2000000 in
theorem pf64_near (d : Nat) (hd : d < 18446744073709551616) (p sign : Int) (hp0 : -345 ≤ p) (hp1 : p ≤ 310) (hs0 : 0 ≤ sign) (hs1 : sign < 18446744073709551616) (b : Nat) (hb : b ≤ 64) (hbd : Lib.bitLen d = b) (lp e : Int) (hlp : lp = p * 108853 / 32768) (he : e = min 1074 (53 - (b : Int) - lp)) (hfar : ¬ 64 ≤ -(e - (64 - (b : Int)) + lp + 3)) :
    ∃ (f : Nat) (er : Bool), ∀ w, PowAt w → 8 ≤ w.heap.size → Calls Tryz.prog 251 #[.int .u64 d, .int .i64 p, .int .u64 sign] w fun r w' => r = .returned (.tuple #[.float .f64 f, erV er]) ∧ Below w.heap.size w w' := by
  have hl0 : -2000 ≤ lp := by omega
  have hl1 : lp ≤ 2000 := by omega
  have he0 : -1100 ≤ e := by omega
  have he1 : e ≤ 1074 := by omega
  have hx0 := (u64_in2 ((d : Int) * 2 ^ (64 - b))).1
  have hx1 := (u64_in2 ((d : Int) * 2 ^ (64 - b))).2
  obtain ⟨U, hU⟩ : ∃ U, U = scl (e - (64 - (b : Int))) p (IntKind.u64.wrap ((d : Int) * 2 ^ (64 - b))) := ⟨_, rfl⟩
  have hUi := scl_in (e - (64 - (b : Int))) p (IntKind.u64.wrap ((d : Int) * 2 ^ (64 - b)))
  have hS := fun bb w h => scl_run (e - (64 - (b : Int))) p (IntKind.u64.wrap ((d : Int) * 2 ^ (64 - b))) hx0 hx1 bb w h
  rw [← hU] at hUi hS
  rw [← hlp] at hS
  have HS := Lib.hid hS
  have hL := fun w => Tryz.bits_Len64 (d : Int) w (by omega) (by omega)
  have hdd : ((d : Int)).toNat = d := by omega
  rw [hdd, hbd] at hL
  have hL2 := fun w => l2_run p (by omega) (by omega) w
  rw [← hlp] at hL2
  have HL := Lib.hid hL
  have HL2 := Lib.hid hL2
  have hmin : min 1074 (53 - (b : Int) - lp) = e := he.symm
  have hfar2 : decide (64 ≤ -(e - (64 - (b : Int)) + lp + 3)) = false := by simpa using hfar
  have hnn : (64 - (b : Int)).toNat = 64 - b := by omega
  clear hL hL2 hlp hdd hbd he hU hS
  obtain ⟨x, hxe⟩ : ∃ x, IntKind.u64.wrap ((d : Int) * 2 ^ (64 - b)) = x := ⟨_, rfl⟩
  rw [hxe] at hx0 hx1 HS
  have HXE := Lib.hid hxe
  clear hxe
  by_cases hc : 36028797018963966 ≤ U
  · have hcb : decide (36028797018963966 ≤ U) = true := by simpa using hc
    obtain ⟨f, er, hF⟩ := pack64_any (bits BinOp.or IntKind.u64 sign (rnd (bits BinOp.or IntKind.u64 (U / 2) (bits BinOp.and IntKind.u64 U 1)))) (-(e - 1)) (or_in _ _).1 (or_in _ _).2 (by omega) (by omega)
    have HF := Lib.hid hF
    clear hF
    refine ⟨f, er, fun w hp hw => ?_⟩
    have HP := Lib.hid hp
    have HW := Lib.hid hw
    clear hp hw
    go_enter Tryz.func251, Tryz.ntmps251
    go_wp2_with (first | (go_at_call 201; refine (HL.out _).mono ?_; rintro r w1 ⟨rfl, rfl⟩) | (go_at_call 223; refine (HL2.out _).mono ?_; rintro r w1 ⟨rfl, rfl⟩) | (go_at_call 222; refine (prescale_run w1.heap.size _ _ _ (e - (64 - (b : Int))) p lp _ (HP.out.keep (below_alloc w1 _) HW.out) (by omega) (by omega) (by omega) (by omega) hl0 hl1 HW.out (by simp; rfl) (by simp; rfl) (by simp; rfl) (by simp) (by simp) (by simp)).mono ?_; rintro r w2 ⟨rfl, hb2, p0, p1, p2⟩; have hPre := Pre.mk (w := w2) (b := w1.heap.size) (by have h := hb2.size; simp at h; omega) p0 p1 p2; have hB2 := Below.trans (below_alloc w1 _) hb2) | (go_at_call 224; rw [HXE.out]; refine (HS.out _ _ hPre).mono ?_; rintro r w3 ⟨rfl, hb3⟩; have hB3 := belowOn hB2 hb3) | (go_at_call 229; refine (unmin_run _ _).mono ?_; rintro r w4 ⟨rfl, rfl⟩) | (go_at_call 210; refine (Tryz.internal_strconv_bool2_int true _).mono ?_; rintro r w5 ⟨rfl, rfl⟩) | (go_at_call 228; refine (round_run _ _).mono ?_; rintro r w6 ⟨rfl, rfl⟩) | (go_at_call 260; refine (HF.out _).mono ?_; rintro r w7 ⟨rfl, rfl⟩))
    all_goals go_ret2
    all_goals exact ⟨rfl, hB3⟩
  · have hcb : decide (36028797018963966 ≤ U) = false := by simpa using hc
    obtain ⟨f, er, hF⟩ := pack64_any (bits BinOp.or IntKind.u64 sign (rnd (bits BinOp.or IntKind.u64 U (bits BinOp.and IntKind.u64 U 1)))) (-e) (or_in _ _).1 (or_in _ _).2 (by omega) (by omega)
    have HF := Lib.hid hF
    clear hF
    refine ⟨f, er, fun w hp hw => ?_⟩
    have HP := Lib.hid hp
    have HW := Lib.hid hw
    clear hp hw
    go_enter Tryz.func251, Tryz.ntmps251
    go_wp2_with (first | (go_at_call 201; refine (HL.out _).mono ?_; rintro r w1 ⟨rfl, rfl⟩) | (go_at_call 223; refine (HL2.out _).mono ?_; rintro r w1 ⟨rfl, rfl⟩) | (go_at_call 222; refine (prescale_run w1.heap.size _ _ _ (e - (64 - (b : Int))) p lp _ (HP.out.keep (below_alloc w1 _) HW.out) (by omega) (by omega) (by omega) (by omega) hl0 hl1 HW.out (by simp; rfl) (by simp; rfl) (by simp; rfl) (by simp) (by simp) (by simp)).mono ?_; rintro r w2 ⟨rfl, hb2, p0, p1, p2⟩; have hPre := Pre.mk (w := w2) (b := w1.heap.size) (by have h := hb2.size; simp at h; omega) p0 p1 p2; have hB2 := Below.trans (below_alloc w1 _) hb2) | (go_at_call 224; rw [HXE.out]; refine (HS.out _ _ hPre).mono ?_; rintro r w3 ⟨rfl, hb3⟩; have hB3 := belowOn hB2 hb3) | (go_at_call 229; refine (unmin_run _ _).mono ?_; rintro r w4 ⟨rfl, rfl⟩) | (go_at_call 210; refine (Tryz.internal_strconv_bool2_int false _).mono ?_; rintro r w5 ⟨rfl, rfl⟩) | (go_at_call 228; refine (round_run _ _).mono ?_; rintro r w6 ⟨rfl, rfl⟩) | (go_at_call 260; refine (HF.out _).mono ?_; rintro r w7 ⟨rfl, rfl⟩))
    all_goals go_ret2
    all_goals exact ⟨rfl, hB3⟩
/-- internal/strconv.parseFloat64: total; its float and error hang on its arguments alone. -/
theorem pf64_any (d : Int) (hd0 : 0 ≤ d) (hd : d < 18446744073709551616) (p sign : Int) (hp0 : -345 ≤ p) (hp1 : p ≤ 310) (hs0 : 0 ≤ sign) (hs1 : sign < 18446744073709551616) :
    ∃ (f : Nat) (er : Bool), ∀ w, PowAt w → 8 ≤ w.heap.size → Calls Tryz.prog 251 #[.int .u64 d, .int .i64 p, .int .u64 sign] w fun r w' => r = .returned (.tuple #[.float .f64 f, erV er]) ∧ Below w.heap.size w w' := by
  obtain ⟨n, rfl⟩ := nat_of d hd0
  have hn : n < 18446744073709551616 := by omega
  have hb : Lib.bitLen n ≤ 64 := Lib.bitLen_le n 64 (by omega) (by omega)
  by_cases hfar : 64 ≤ -(min 1074 (53 - (Lib.bitLen n : Int) - p * 108853 / 32768) - (64 - (Lib.bitLen n : Int)) + p * 108853 / 32768 + 3)
  · exact pf64_far n hn p sign hp0 hp1 hs0 hs1 (Lib.bitLen n) hb rfl _ _ rfl rfl hfar
  · exact pf64_near n hn p sign hp0 hp1 hs0 hs1 (Lib.bitLen n) hb rfl _ _ rfl rfl hfar
end Go.Proofs.YtnggkkdcddpjlaaGreatDoor
