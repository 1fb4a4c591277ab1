/- ParseFloat at 64 bits: its float is a word of 64 bits. -/
import Derived.Test.YtnggkkdcddpjlaaGreatDoorZ41
namespace Go.Proofs.YtnggkkdcddpjlaaGreatDoor
open Go.RowKit Ieee
set_option maxRecDepth 100000
set_option linter.unusedVariables false
set_option linter.unusedSimpArgs false
theorem lt_of {x : Int} {v : Nat} (h : x = v) (hx : x < 18446744073709551616) : v < 18446744073709551616 := by omega
theorem int_lt64 (m : Int) : floatOfInt .f64 m < 18446744073709551616 := by
  have e64 : 2 ^ FloatKind.f64.format.width = 18446744073709551616 := by decide
  unfold floatOfInt FloatKind.nearest FloatKind.encode
  rw [← e64]
  exact FloatKind.f64.format.write_lt _
theorem neg_lt64 (x : Nat) (h : x < 18446744073709551616) : Op.negFloat .f64 x < 18446744073709551616 := by
  have e : FloatKind.f64.format.exponentBits + FloatKind.f64.format.fractionBits = 63 := by decide
  unfold Op.negFloat
  rw [e]
  have h2 : (18446744073709551616 : Nat) = 2 ^ 64 := by decide
  rw [h2] at h ⊢
  exact Nat.xor_lt_two_pow h (by decide)
theorem sgn_lt64 (ng : Bool) (m : Int) : sgnInt .f64 ng m < 18446744073709551616 := by
  unfold sgnInt
  split
  · exact neg_lt64 _ (int_lt64 m)
  · exact int_lt64 m
theorem ex_lt64 (tab : Nat → Nat) (x c c' : Nat) (e : Int) (r : Nat) (hx : x < 18446744073709551616) (h : ExTold .f64 tab 22 37 c c' x e r) : r < 18446744073709551616 := by
  have e64 : 2 ^ FloatKind.f64.format.width = 18446744073709551616 := by decide
  rcases h with ⟨_, h⟩ | ⟨_, _, _, _, h⟩ | ⟨_, _, _, _, h⟩ | ⟨_, _, _, _, _, _, _, _, h⟩
  · rw [h]; exact hx
  · rw [← e64]; exact FloatKind.f64.format.mul_lt h
  · rw [← e64]; exact FloatKind.f64.format.div_lt h
  · rw [← e64]; exact FloatKind.f64.format.mul_lt h
theorem pack64_lt (m e : Int) (hm0 : 0 ≤ m) (hm1 : m < 18446744073709551616) (he0 : -3000 ≤ e) (he1 : e ≤ 3000) : ∃ (f : Nat) (b : Bool), f < 18446744073709551616 ∧ ∀ w, Calls Tryz.prog 260 #[.int .u64 m, .int .i64 e] w fun r w' => r = .returned (.tuple #[.float .f64 f, erV b]) ∧ w' = w := by
  obtain ⟨n0, hn0⟩ := nat_of m hm0
  cases h0 : (bits .and .u64 m 4503599627370496 == 0) with
  | true =>
    refine ⟨n0, false, by omega, fun w => ?_⟩
    have hb := fun w => frombits64 n0 w
    subst hn0
    go_enter Tryz.func260, Tryz.ntmps260
    go_wp2
    go_ret2
    exact ⟨rfl, rfl⟩
  | false =>
    by_cases he : 972 ≤ e
    · obtain ⟨n1, hn1⟩ := nat_of (bits .or .u64 (bits .and .u64 m 9223372036854775808) 9218868437227405312) (or_in _ _).1
      refine ⟨n1, true, lt_of hn1 (or_in _ _).2, fun w => ?_⟩
      have hb := fun w => frombits64 n1 w
      clear hn0
      go_enter Tryz.func260, Tryz.ntmps260
      go_wp2
      go_ret2
      exact ⟨rfl, rfl⟩
    · obtain ⟨n1, hn1⟩ := nat_of (bits .or .u64 (bits .andNot .u64 m 4503599627370496) (IntKind.u64.wrap (IntKind.u64.wrap (1075 + e) * 4503599627370496))) (or_in _ _).1
      refine ⟨n1, false, lt_of hn1 (or_in _ _).2, fun w => ?_⟩
      have hb := fun w => frombits64 n1 w
      clear hn0
      go_enter Tryz.func260, Tryz.ntmps260
      go_wp2
      go_ret2
      exact ⟨rfl, rfl⟩
set_option maxHeartbeats 2000000 in
theorem pf64_far_lt (d : Nat) (hd : d < 18446744073709551616) (p sign : Int) (hp0 : -345 ≤ p) (hp1 : p ≤ 310) (hs0 : 0 ≤ sign) (hs1 : sign < 18446744073709551616) (b : Nat) (hb : b ≤ 64) (hbd : Lib.bitLen d = b) (lp e : Int) (hlp : lp = p * 108853 / 32768) (he : e = min 1074 (53 - (b : Int) - lp)) (hfar : 64 ≤ -(e - (64 - (b : Int)) + lp + 3)) :
    ∃ (f : Nat) (er : Bool), f < 18446744073709551616 ∧ ∀ w, PowAt w → 8 ≤ w.heap.size → Calls Tryz.prog 251 #[.int .u64 d, .int .i64 p, .int .u64 sign] w fun r w' => r = .returned (.tuple #[.float .f64 f, erV er]) ∧ Below w.heap.size w w' := by
  have hor : bits .or .u64 sign 0 = sign := by
    obtain ⟨n, rfl⟩ := nat_of sign hs0
    have h : bits BinOp.or IntKind.u64 (n : Int) 0 = IntKind.u64.wrap ((BitVec.ofInt 64 (n : Int) ||| BitVec.ofInt 64 0).toNat : Nat) := rfl
    rw [h, IntKind.wrap_u64, BitVec.toNat_or, BitVec.toNat_ofInt, BitVec.toNat_ofInt]
    simp
    omega
  obtain ⟨n0, hn0⟩ := nat_of sign hs0
  refine ⟨n0, false, by omega, fun w hp hw => ?_⟩
  subst hn0
  have hfb := fun w => frombits64 n0 w
  have hL := fun w => Tryz.bits_Len64 (d : Int) w (by omega) (by omega)
  have hdd : ((d : Int)).toNat = d := by omega
  rw [hdd, hbd] at hL
  have hL2 := fun w => l2_run p (by omega) (by omega) w
  rw [← hlp] at hL2
  have hl0 : -2000 ≤ lp := by omega
  have hl1 : lp ≤ 2000 := by omega
  have he0 : -1100 ≤ e := by omega
  have he1 : e ≤ 1074 := by omega
  have HL := Lib.hid hL
  have HL2 := Lib.hid hL2
  have HP := Lib.hid hp
  have HW := Lib.hid hw
  have hmin : min 1074 (53 - (b : Int) - lp) = e := he.symm
  have hfar2 : decide (64 ≤ -(e - (64 - (b : Int)) + lp + 3)) = true := by simpa using hfar
  clear hL hL2 hp hw hlp hdd hbd he
  go_enter Tryz.func251, Tryz.ntmps251
  go_wp2_with (first | (go_at_call 201; refine (HL.out _).mono ?_; rintro r w1 ⟨rfl, rfl⟩) | (go_at_call 223; refine (HL2.out _).mono ?_; rintro r w1 ⟨rfl, rfl⟩) | (go_at_call 222; refine (prescale_run w1.heap.size _ _ _ (e - (64 - (b : Int))) p lp _ (HP.out.keep (below_alloc w1 _) HW.out) (by omega) (by omega) (by omega) (by omega) hl0 hl1 HW.out (by simp; rfl) (by simp; rfl) (by simp; rfl) (by simp) (by simp) (by simp)).mono ?_; rintro r w2 ⟨rfl, hb2, p0, p1, p2⟩; have hB2 := Below.trans (below_alloc w1 _) hb2))
  go_ret2
  exact ⟨rfl, hB2⟩
set_option maxHeartbeats 2000000 in
theorem pf64_near_lt (d : Nat) (hd : d < 18446744073709551616) (p sign : Int) (hp0 : -345 ≤ p) (hp1 : p ≤ 310) (hs0 : 0 ≤ sign) (hs1 : sign < 18446744073709551616) (b : Nat) (hb : b ≤ 64) (hbd : Lib.bitLen d = b) (lp e : Int) (hlp : lp = p * 108853 / 32768) (he : e = min 1074 (53 - (b : Int) - lp)) (hfar : ¬ 64 ≤ -(e - (64 - (b : Int)) + lp + 3)) :
    ∃ (f : Nat) (er : Bool), f < 18446744073709551616 ∧ ∀ w, PowAt w → 8 ≤ w.heap.size → Calls Tryz.prog 251 #[.int .u64 d, .int .i64 p, .int .u64 sign] w fun r w' => r = .returned (.tuple #[.float .f64 f, erV er]) ∧ Below w.heap.size w w' := by
  have hl0 : -2000 ≤ lp := by omega
  have hl1 : lp ≤ 2000 := by omega
  have he0 : -1100 ≤ e := by omega
  have he1 : e ≤ 1074 := by omega
  have hx0 := (u64_in2 ((d : Int) * 2 ^ (64 - b))).1
  have hx1 := (u64_in2 ((d : Int) * 2 ^ (64 - b))).2
  obtain ⟨U, hU⟩ : ∃ U, U = scl (e - (64 - (b : Int))) p (IntKind.u64.wrap ((d : Int) * 2 ^ (64 - b))) := ⟨_, rfl⟩
  have hUi := scl_in (e - (64 - (b : Int))) p (IntKind.u64.wrap ((d : Int) * 2 ^ (64 - b)))
  have hS := fun bb w h => scl_run (e - (64 - (b : Int))) p (IntKind.u64.wrap ((d : Int) * 2 ^ (64 - b))) hx0 hx1 bb w h
  rw [← hU] at hUi hS
  rw [← hlp] at hS
  have HS := Lib.hid hS
  have hL := fun w => Tryz.bits_Len64 (d : Int) w (by omega) (by omega)
  have hdd : ((d : Int)).toNat = d := by omega
  rw [hdd, hbd] at hL
  have hL2 := fun w => l2_run p (by omega) (by omega) w
  rw [← hlp] at hL2
  have HL := Lib.hid hL
  have HL2 := Lib.hid hL2
  have hmin : min 1074 (53 - (b : Int) - lp) = e := he.symm
  have hfar2 : decide (64 ≤ -(e - (64 - (b : Int)) + lp + 3)) = false := by simpa using hfar
  have hnn : (64 - (b : Int)).toNat = 64 - b := by omega
  clear hL hL2 hlp hdd hbd he hU hS
  obtain ⟨x, hxe⟩ : ∃ x, IntKind.u64.wrap ((d : Int) * 2 ^ (64 - b)) = x := ⟨_, rfl⟩
  rw [hxe] at hx0 hx1 HS
  have HXE := Lib.hid hxe
  clear hxe
  by_cases hc : 36028797018963966 ≤ U
  · have hcb : decide (36028797018963966 ≤ U) = true := by simpa using hc
    obtain ⟨f, er, hflt, hF⟩ := pack64_lt (bits BinOp.or IntKind.u64 sign (rnd (bits BinOp.or IntKind.u64 (U / 2) (bits BinOp.and IntKind.u64 U 1)))) (-(e - 1)) (or_in _ _).1 (or_in _ _).2 (by omega) (by omega)
    have HF := Lib.hid hF
    clear hF
    refine ⟨f, er, hflt, fun w hp hw => ?_⟩
    have HP := Lib.hid hp
    have HW := Lib.hid hw
    clear hp hw
    go_enter Tryz.func251, Tryz.ntmps251
    go_wp2_with (first | (go_at_call 201; refine (HL.out _).mono ?_; rintro r w1 ⟨rfl, rfl⟩) | (go_at_call 223; refine (HL2.out _).mono ?_; rintro r w1 ⟨rfl, rfl⟩) | (go_at_call 222; refine (prescale_run w1.heap.size _ _ _ (e - (64 - (b : Int))) p lp _ (HP.out.keep (below_alloc w1 _) HW.out) (by omega) (by omega) (by omega) (by omega) hl0 hl1 HW.out (by simp; rfl) (by simp; rfl) (by simp; rfl) (by simp) (by simp) (by simp)).mono ?_; rintro r w2 ⟨rfl, hb2, p0, p1, p2⟩; have hPre := Pre.mk (w := w2) (b := w1.heap.size) (by have h := hb2.size; simp at h; omega) p0 p1 p2; have hB2 := Below.trans (below_alloc w1 _) hb2) | (go_at_call 224; rw [HXE.out]; refine (HS.out _ _ hPre).mono ?_; rintro r w3 ⟨rfl, hb3⟩; have hB3 := belowOn hB2 hb3) | (go_at_call 229; refine (unmin_run _ _).mono ?_; rintro r w4 ⟨rfl, rfl⟩) | (go_at_call 210; refine (Tryz.internal_strconv_bool2_int true _).mono ?_; rintro r w5 ⟨rfl, rfl⟩) | (go_at_call 228; refine (round_run _ _).mono ?_; rintro r w6 ⟨rfl, rfl⟩) | (go_at_call 260; refine (HF.out _).mono ?_; rintro r w7 ⟨rfl, rfl⟩))
    all_goals go_ret2
    all_goals exact ⟨rfl, hB3⟩
  · have hcb : decide (36028797018963966 ≤ U) = false := by simpa using hc
    obtain ⟨f, er, hflt, hF⟩ := pack64_lt (bits BinOp.or IntKind.u64 sign (rnd (bits BinOp.or IntKind.u64 U (bits BinOp.and IntKind.u64 U 1)))) (-e) (or_in _ _).1 (or_in _ _).2 (by omega) (by omega)
    have HF := Lib.hid hF
    clear hF
    refine ⟨f, er, hflt, fun w hp hw => ?_⟩
    have HP := Lib.hid hp
    have HW := Lib.hid hw
    clear hp hw
    go_enter Tryz.func251, Tryz.ntmps251
    go_wp2_with (first | (go_at_call 201; refine (HL.out _).mono ?_; rintro r w1 ⟨rfl, rfl⟩) | (go_at_call 223; refine (HL2.out _).mono ?_; rintro r w1 ⟨rfl, rfl⟩) | (go_at_call 222; refine (prescale_run w1.heap.size _ _ _ (e - (64 - (b : Int))) p lp _ (HP.out.keep (below_alloc w1 _) HW.out) (by omega) (by omega) (by omega) (by omega) hl0 hl1 HW.out (by simp; rfl) (by simp; rfl) (by simp; rfl) (by simp) (by simp) (by simp)).mono ?_; rintro r w2 ⟨rfl, hb2, p0, p1, p2⟩; have hPre := Pre.mk (w := w2) (b := w1.heap.size) (by have h := hb2.size; simp at h; omega) p0 p1 p2; have hB2 := Below.trans (below_alloc w1 _) hb2) | (go_at_call 224; rw [HXE.out]; refine (HS.out _ _ hPre).mono ?_; rintro r w3 ⟨rfl, hb3⟩; have hB3 := belowOn hB2 hb3) | (go_at_call 229; refine (unmin_run _ _).mono ?_; rintro r w4 ⟨rfl, rfl⟩) | (go_at_call 210; refine (Tryz.internal_strconv_bool2_int false _).mono ?_; rintro r w5 ⟨rfl, rfl⟩) | (go_at_call 228; refine (round_run _ _).mono ?_; rintro r w6 ⟨rfl, rfl⟩) | (go_at_call 260; refine (HF.out _).mono ?_; rintro r w7 ⟨rfl, rfl⟩))
    all_goals go_ret2
    all_goals exact ⟨rfl, hB3⟩
/-- internal/strconv.parseFloat64: total; its float and error hang on its arguments alone. -/
theorem pf64_lt (d : Int) (hd0 : 0 ≤ d) (hd : d < 18446744073709551616) (p sign : Int) (hp0 : -345 ≤ p) (hp1 : p ≤ 310) (hs0 : 0 ≤ sign) (hs1 : sign < 18446744073709551616) :
    ∃ (f : Nat) (er : Bool), f < 18446744073709551616 ∧ ∀ w, PowAt w → 8 ≤ w.heap.size → Calls Tryz.prog 251 #[.int .u64 d, .int .i64 p, .int .u64 sign] w fun r w' => r = .returned (.tuple #[.float .f64 f, erV er]) ∧ Below w.heap.size w w' := by
  obtain ⟨n, rfl⟩ := nat_of d hd0
  have hn : n < 18446744073709551616 := by omega
  have hb : Lib.bitLen n ≤ 64 := Lib.bitLen_le n 64 (by omega) (by omega)
  by_cases hfar : 64 ≤ -(min 1074 (53 - (Lib.bitLen n : Int) - p * 108853 / 32768) - (64 - (Lib.bitLen n : Int)) + p * 108853 / 32768 + 3)
  · exact pf64_far_lt n hn p sign hp0 hp1 hs0 hs1 (Lib.bitLen n) hb rfl _ _ rfl rfl hfar
  · exact pf64_near_lt n hn p sign hp0 hp1 hs0 hs1 (Lib.bitLen n) hb rfl _ _ rfl rfl hfar
theorem atofHex_lt (m p : Int) (ng tr : Bool) (h0 : 0 ≤ m) (h1 : m < 18446744073709551616) (hp0 : -6000000 ≤ p) (hp1 : p ≤ 6000000) :
    ∃ (f : Nat) (er : Bool), f < 18446744073709551616 ∧ ∀ (s : ByteArray) (w : World), FltAt w 6 52 11 (-1023) → Two w → Calls Tryz.prog 241 #[.string s, .pointer (some ⟨6, 0, none⟩), .int .u64 m, .int .i64 p, .bool ng, .bool tr] w fun e w' => e = .returned (.tuple #[.float .f64 f, erV er]) ∧ ∃ k, w' = w.drewN k := by
  obtain ⟨Z1, hE1, hI1, hN1⟩ := ends_some (step := hx1) H1I (fun y => (18446744073709551616 - y.m).toNat) hx1_keep _ ⟨m, p + 52⟩ (Nat.le_refl _) ⟨h0, h1, by show -8000000 ≤ p + 52 + min m 36028797018963968; omega, by show p + 52 ≤ 7000000; omega⟩
  obtain ⟨a1, a2, a3, a4⟩ := hI1
  have hYI : H2I ⟨if tr = true then bits .or .u64 Z1.m 1 else Z1.m, Z1.e⟩ := by
    have hy : 0 ≤ (if tr = true then bits .or .u64 Z1.m 1 else Z1.m) ∧ (if tr = true then bits .or .u64 Z1.m 1 else Z1.m) < 18446744073709551616 := by
      split
      · exact bits_in _ _ _
      · exact ⟨a1, a2⟩
    generalize (if tr = true then bits .or .u64 Z1.m 1 else Z1.m) = Y at hy
    exact ⟨hy.1, hy.2, by dsimp only; omega, by dsimp only; omega⟩
  obtain ⟨Z2, hE2, hI2, hN2⟩ := ends_some (step := hx2) H2I (fun y => y.m.toNat) hx2_keep _ ⟨if tr = true then bits .or .u64 Z1.m 1 else Z1.m, Z1.e⟩ (Nat.le_refl _) hYI
  have h2m : Z2.m < 36028797018963968 := by
    have h := hN2
    unfold hx2 at h
    split at h
    · cases h
    · omega
  obtain ⟨b1, b2, b3, b4⟩ := hI2
  obtain ⟨Z3, hE3, hI3, hN3⟩ := ends_some (step := hx3) H3I (fun y => (-1024 - y.e).toNat) hx3_keep _ Z2 (Nat.le_refl _) ⟨b1, h2m, b3, by omega⟩
  have hvv : 0 ≤ hxV ng (hxM Z3.m) (hxE Z3.m Z3.e) ∧ hxV ng (hxM Z3.m) (hxE Z3.m Z3.e) < 18446744073709551616 := by
    unfold hxV
    split <;> exact fbV_in _ _ _
  have hv := hvv.1
  obtain ⟨n, hn⟩ := nat_of _ hv
  exact ⟨n, _, lt_of hn hvv.2, fun s w hF hT => hex_run s m p ng tr h0 h1 hp0 hp1 Z1 Z2 Z3 hE1 ⟨a1, a2, a3, a4⟩ hN1 _ rfl hYI hE2 ⟨b1, b2, b3, b4⟩ hN2 hE3 hI3 hN3 n hn w hF hT⟩
/-- internal/strconv.atof64: total; its answers hang on the text alone. -/
theorem atof64_lt (s : ByteArray) (hs : (s.size : Int) ≤ 1000000) : ∃ (f n k : Nat), k ≤ 2 ∧ f < 18446744073709551616 ∧ ∀ w, PW w → Calls Tryz.prog 218 #[.string s] w (AtPost w f n k) := by
  obtain ⟨f0, n0, ok0, hf0, hSp⟩ := special_any s hs
  cases ok0 with
  | true => exact ⟨f0, n0, 0, by omega, by omega, fun w hw => at_special s hs f0 n0 hSp w hw⟩
  | false =>
    obtain ⟨⟨m, p, tr, n, ok⟩, ng, hx, hI, hRf⟩ := readFloat_any s hs
    have hRf := rf_run hRf
    obtain ⟨i1, i2, i3, i4, i5⟩ := hI
    dsimp only at i1 i2 i3 i4 i5 hRf
    cases ok with
    | false => exact ⟨0, n, 2, by omega, by decide, fun w hw => at_bad s hs f0 n0 hSp m p ng tr hx n hRf w hw⟩
    | true =>
      cases hx with
      | true =>
        obtain ⟨fh, eh, hfh, hH⟩ := atofHex_lt m p ng tr i1 i2 i3 i4
        exact ⟨fh, n, if eh = true then 1 else 0, by split <;> omega, hfh, fun w hw => at_hex s hs f0 n0 hSp m p ng tr true n hRf i5 fh eh hH w hw⟩
      | false =>
        by_cases hm : m = 0
        · subst hm
          obtain ⟨v, hv⟩ := nat_of _ (bits_in .or (sgn ng) 0).1
          exact ⟨v, n, 0, by omega, lt_of hv (bits_in .or (sgn ng) 0).2, fun w hw => at_zero s hs f0 n0 hSp 0 p ng tr false n hRf v hv w hw⟩
        · have hm0 : 0 < m := by omega
          by_cases hp1 : 310 < p
          · obtain ⟨v, hv⟩ := nat_of _ (bits_in .or (sgn ng) 9218868437227405312).1
            exact ⟨v, n, 1, by omega, lt_of hv (bits_in .or (sgn ng) 9218868437227405312).2, fun w hw => at_over s hs f0 n0 hSp m p ng tr false n hRf hm0 hp1 v hv w hw⟩
          · by_cases hp0 : p < -345
            · obtain ⟨v, hv⟩ := nat_of _ (bits_in .or (sgn ng) 0).1
              exact ⟨v, n, 0, by omega, lt_of hv (bits_in .or (sgn ng) 0).2, fun w hw => at_under s hs f0 n0 hSp m p ng tr false n hRf hm0 hp0 v hv w hw⟩
            · obtain ⟨f1, e1, hf1, h1⟩ := pf64_lt m i1 i2 p (sgn ng) (by omega) (by omega) (sgn_in ng).1 (sgn_in ng).2
              cases tr with
              | false =>
                cases hdv : (m / 4503599627370496 == 0) with
                | false => exact ⟨f1, n, if e1 = true then 1 else 0, by split <;> omega, hf1, fun w hw => at_parse s hs f0 n0 hSp m p ng false false n hRf hm0 (by omega) (by omega) 0 false (fun w h => exact_big m p ng i1 i2 hdv fpTab w h) f1 e1 h1 w hw⟩
                | true =>
                  obtain ⟨c, hc⟩ : ∃ c : Nat, c = 4831355200913801216 := ⟨_, rfl⟩
                  obtain ⟨c', hc'⟩ : ∃ c : Nat, c = 14054727237768577024 := ⟨_, rfl⟩
                  obtain ⟨fx, okx, hT, hEx⟩ := told64 fpTab (fun j hj => notNought_num rfl (num_of (fp64_num j (by omega)))) m p ng i1 i2 hdv c c' hc hc'
                  cases okx with
                  | true => exact ⟨fx, n, 0, by omega, ex_lt64 _ _ _ _ _ _ (sgn_lt64 ng m) (hT rfl), fun w hw => at_exact s hs f0 n0 hSp m p ng false false n hRf hm0 (by omega) (by omega) fx true hEx w hw⟩
                  | false => exact ⟨f1, n, if e1 = true then 1 else 0, by split <;> omega, hf1, fun w hw => at_parse s hs f0 n0 hSp m p ng false false n hRf hm0 (by omega) (by omega) fx false hEx f1 e1 h1 w hw⟩
              | true =>
                obtain ⟨f2, e2, hf2, h2⟩ := pf64_lt (IntKind.u64.wrap (m + 1)) (u64_in2 _).1 (u64_in2 _).2 p (sgn ng) (by omega) (by omega) (sgn_in ng).1 (sgn_in ng).2
                cases heq : ((FloatKind.f64.format.order f1 f2) == some Ordering.eq) with
                | true => exact ⟨f1, n, if e1 = true then 1 else 0, by split <;> omega, hf1, fun w hw => at_same s hs f0 n0 hSp m p ng true false n hRf hm0 (by omega) (by omega) i2 f1 f2 e1 e2 h1 h2 heq w hw⟩
                | false =>
                  obtain ⟨oks, y, hy, hSet⟩ := set_any (s.extract 0 n) (by rw [ByteArray.size_extract]; omega)
                  cases oks with
                  | false => exact ⟨0, n, 2, by omega, by decide, fun w hw => at_slow s hs f0 n0 hSp m p ng n hRf i5 hm0 i2 (by omega) (by omega) f1 f2 e1 e2 h1 h2 heq false y hSet 0 false (fun h => by cases h) w hw⟩
                  | true =>
                    obtain ⟨v, o, hv0, hv1, hFb⟩ := floatBits_any y (hy rfl)
                    obtain ⟨v', rfl⟩ := nat_of v hv0
                    exact ⟨v', n, if o = true then 1 else 0, by split <;> omega, by omega, fun w hw => at_slow s hs f0 n0 hSp m p ng n hRf i5 hm0 i2 (by omega) (by omega) f1 f2 e1 e2 h1 h2 heq true y hSet v' o (fun _ => hFb) w hw⟩
theorem parseFloat_lt (s : ByteArray) (hs : s.size ≤ 1000000) : ∃ (f : Nat) (bad : Bool), f < 18446744073709551616 ∧ ∀ w, Good w → PW w → Calls Tryz.prog 133 #[.string s, .int .i64 64] w (NumPost w (.float .f64 f) bad) := by
  obtain ⟨f, n, k, hk, hf, h⟩ := atof64_lt s (by omega)
  by_cases hn : n = s.size
  · exact ⟨f, _, hf, fun w hg hw => pf_run s hs f k hk (fun w hw => pfIn_same s f n k h hn w hw) w hg hw⟩
  · exact ⟨0, _, by decide, fun w hg hw => pf_run s hs 0 2 (by omega) (fun w hw => pfIn_other s f n k h hn w hw) w hg hw⟩
end Go.Proofs.YtnggkkdcddpjlaaGreatDoor
