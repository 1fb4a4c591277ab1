/- internal/strconv.ftoa64, ftoa32 at the form 'f', shortest, at whatever finite float: total, and the text hangs on the float alone. -/
import Derived.Test.YtnggkkdcddpjlaaGreatDoorD5
namespace Go.Proofs.YtnggkkdcddpjlaaGreatDoor
open Go.RowKit
set_option maxRecDepth 100000
set_option linter.unusedVariables false
theorem and_i64 (s : Int) (k : Nat) (m : Int) (hk : k ≤ 62) (hm : (BitVec.ofInt 64 m).toNat = 2 ^ k - 1) : bits BinOp.and IntKind.i64 s m = s % ((2 ^ k : Nat) : Int) := by
  have key : (BitVec.ofInt 64 s &&& BitVec.ofInt 64 m).toNat = (s % ((2 ^ 64 : Nat) : Int)).toNat % 2 ^ k := by
    rw [BitVec.toNat_and, BitVec.toNat_ofInt, hm, Nat.and_two_pow_sub_one_eq_mod]
  show IntKind.i64.wrap ((BitVec.ofInt 64 s &&& BitVec.ofInt 64 m).toNat : Nat) = _
  rw [key, IntKind.wrap_i64]
  have h1 : (2 ^ k : Nat) ≤ 2 ^ 62 := Nat.pow_le_pow_right (by omega) hk
  have h3 : (2 ^ 62 : Nat) = 4611686018427387904 := by decide
  have h4 : (2 ^ 64 : Nat) = 18446744073709551616 := by decide
  have h5 : 0 < (2 ^ k : Nat) := Nat.two_pow_pos k
  have hd : (2 ^ k : Nat) ∣ 2 ^ 64 := Nat.pow_dvd_pow 2 (by omega)
  have h6 : (s % ((2 ^ 64 : Nat) : Int)).toNat % 2 ^ k < 2 ^ k := Nat.mod_lt _ h5
  have h7 : (((s % ((2 ^ 64 : Nat) : Int)).toNat % 2 ^ k : Nat) : Int) = s % ((2 ^ k : Nat) : Int) := by
    rw [Int.natCast_emod, Int.toNat_of_nonneg (Int.emod_nonneg _ (by omega))]
    exact Int.emod_emod_of_dvd s (Int.natCast_dvd_natCast.2 hd)
  rw [← h7]
  omega
theorem and_u64 (s : Int) (k : Nat) (m : Int) (hk : k ≤ 62) (hm : (BitVec.ofInt 64 m).toNat = 2 ^ k - 1) : bits BinOp.and IntKind.u64 s m = s % ((2 ^ k : Nat) : Int) := by
  have key : (BitVec.ofInt 64 s &&& BitVec.ofInt 64 m).toNat = (s % ((2 ^ 64 : Nat) : Int)).toNat % 2 ^ k := by
    rw [BitVec.toNat_and, BitVec.toNat_ofInt, hm, Nat.and_two_pow_sub_one_eq_mod]
  show IntKind.u64.wrap ((BitVec.ofInt 64 s &&& BitVec.ofInt 64 m).toNat : Nat) = _
  rw [key, IntKind.wrap_u64]
  have h1 : (2 ^ k : Nat) ≤ 2 ^ 62 := Nat.pow_le_pow_right (by omega) hk
  have h3 : (2 ^ 62 : Nat) = 4611686018427387904 := by decide
  have h4 : (2 ^ 64 : Nat) = 18446744073709551616 := by decide
  have h5 : 0 < (2 ^ k : Nat) := Nat.two_pow_pos k
  have hd : (2 ^ k : Nat) ∣ 2 ^ 64 := Nat.pow_dvd_pow 2 (by omega)
  have h6 : (s % ((2 ^ 64 : Nat) : Int)).toNat % 2 ^ k < 2 ^ k := Nat.mod_lt _ h5
  have h7 : (((s % ((2 ^ 64 : Nat) : Int)).toNat % 2 ^ k : Nat) : Int) = s % ((2 ^ k : Nat) : Int) := by
    rw [Int.natCast_emod, Int.toNat_of_nonneg (Int.emod_nonneg _ (by omega))]
    exact Int.emod_emod_of_dvd s (Int.natCast_dvd_natCast.2 hd)
  rw [← h7]
  omega
theorem or_u64 (a b k : Nat) (hk : k ≤ 63) (ha : a < 2 ^ k) (hb : b = 2 ^ k) (c : Int) (hc : c = b) : (2 ^ k : Nat) ≤ bits BinOp.or IntKind.u64 a c ∧ bits BinOp.or IntKind.u64 a c < ((2 ^ (k + 1) : Nat) : Int) := by
  have h64 : (2 ^ (k + 1) : Nat) ≤ 2 ^ 64 := Nat.pow_le_pow_right (by omega) (by omega)
  have hs : (2 ^ (k + 1) : Nat) = 2 ^ k + 2 ^ k := by rw [Nat.pow_succ]; omega
  have key : (BitVec.ofInt 64 (a : Int) ||| BitVec.ofInt 64 c).toNat = a ||| b := by
    rw [BitVec.toNat_or, BitVec.toNat_ofInt, BitVec.toNat_ofInt, hc]
    have e1 : ((a : Int) % ((2 ^ 64 : Nat) : Int)).toNat = a := by omega
    have e2 : ((b : Int) % ((2 ^ 64 : Nat) : Int)).toNat = b := by omega
    rw [e1, e2]
  have h1 : b ≤ a ||| b := Nat.right_le_or
  have h2 : a ||| b < 2 ^ (k + 1) := Nat.or_lt_two_pow (by omega) (by omega)
  have h3 : bits BinOp.or IntKind.u64 a c = IntKind.u64.wrap ((BitVec.ofInt 64 (a : Int) ||| BitVec.ofInt 64 c).toNat : Nat) := rfl
  rw [h3, key, IntKind.wrap_u64]
  have h4 : (2 ^ 64 : Nat) = 18446744073709551616 := by decide
  omega
theorem bitLen_top (x k : Nat) (h0 : 2 ^ k ≤ x) (h1 : x < 2 ^ (k + 1)) (hk : k ≤ 62) : Lib.bitLen x = k + 1 := by
  have h64 : (2 ^ (k + 1) : Nat) ≤ 2 ^ 64 := Nat.pow_le_pow_right (by omega) (by omega)
  rw [Lib.bitLen_shift k x h0 (by omega)]
  have h2 : x / 2 ^ k = 1 := by
    have hp : 0 < 2 ^ k := Nat.two_pow_pos k
    have h3 : x / 2 ^ k < 2 := by rw [Nat.div_lt_iff_lt_mul hp]; rw [Nat.pow_succ] at h1; omega
    have h4 : 1 ≤ x / 2 ^ k := by rw [Nat.le_div_iff_mul_le hp]; omega
    omega
  rw [h2]
  have : Lib.bitLen 1 = 1 := by decide +kernel
  rw [this]
theorem bitLen_pos (x : Nat) (h0 : 1 ≤ x) (h1 : x < 2 ^ 62) : 1 ≤ Lib.bitLen x := by
  rw [Lib.bitLen_half x (by omega) (by omega)]
  omega
/-- ftoa64 at a finite float. -/
theorem ftoa64_any (f : Nat) (hf : f < 18446744073709551616) (hfin : f / 4503599627370496 % 2048 < 2047) : ∃ out : List UInt8, out.length ≤ 900 ∧ Ftoa 177 (.float .f64 f) out := by
  have hE : bits .and .i64 ((f : Int) / 4503599627370496) 2047 = ((f / 4503599627370496 % 2048 : Nat) : Int) := by
    rw [and_i64 _ 11 _ (by omega) (by decide)]
    omega
  have hfr : bits .and .u64 (f : Int) 4503599627370495 = ((f % 4503599627370496 : Nat) : Int) := by
    rw [and_u64 _ 52 _ (by omega) (by decide)]
    omega
  rcases (by omega : 1 ≤ f / 4503599627370496 % 2048 ∨ f / 4503599627370496 % 2048 = 0) with h | h
  · obtain ⟨hM0, hM1⟩ := or_u64 (f % 4503599627370496) 4503599627370496 52 (by omega) (Nat.mod_lt _ (by decide)) rfl 4503599627370496 rfl
    refine ftoa64_norm f f _ _ _ rfl (by omega) (by omega) rfl hE hfr (by omega) (by omega) (by omega) (by omega) _ rfl hM0 hM1 (fun w => ?_)
    have h1 := Tryz.bits_Len64 (bits BinOp.or IntKind.u64 ((f % 4503599627370496 : Nat) : Int) 4503599627370496) w (by omega) (by omega)
    have h2 : Lib.bitLen (bits BinOp.or IntKind.u64 ((f % 4503599627370496 : Nat) : Int) 4503599627370496).toNat = 53 := bitLen_top _ 52 (by omega) (by omega) (by omega)
    rw [h2] at h1
    exact h1
  · rw [h] at hE
    rcases (by omega : f % 4503599627370496 = 0 ∨ 1 ≤ f % 4503599627370496) with h0 | h0
    · exact ftoa64_zero f f _ _ _ rfl (by omega) (by omega) rfl hE hfr (by omega) (by omega) rfl (by omega)
    · have hlt : f % 4503599627370496 < 2 ^ 52 := Nat.mod_lt _ (by decide)
      refine ftoa64_den f f _ _ _ rfl (by omega) (by omega) rfl hE hfr (by omega) (by omega) rfl (by simp; omega) (Lib.bitLen (f % 4503599627370496)) (bitLen_pos _ h0 (by omega)) (Lib.bitLen_le _ 52 (by omega) hlt) _ rfl (wr_in _).1 (wr_in _).2 (fun w => ?_)
      exact Tryz.bits_Len64 ((f % 4503599627370496 : Nat) : Int) w (by omega) (by omega)
/-- ftoa32 at a finite float. -/
theorem ftoa32_any (f : Nat) (hf : f < 4294967296) (hfin : f / 8388608 % 256 < 255) : ∃ out : List UInt8, out.length ≤ 900 ∧ Ftoa 176 (.float .f32 f) out := by
  have hE : bits .and .i64 ((f : Int) / 8388608) 255 = ((f / 8388608 % 256 : Nat) : Int) := by
    rw [and_i64 _ 8 _ (by omega) (by decide)]
    omega
  have hfr : bits .and .u64 (f : Int) 8388607 = ((f % 8388608 : Nat) : Int) := by
    rw [and_u64 _ 23 _ (by omega) (by decide)]
    omega
  rcases (by omega : 1 ≤ f / 8388608 % 256 ∨ f / 8388608 % 256 = 0) with h | h
  · obtain ⟨hM0, hM1⟩ := or_u64 (f % 8388608) 8388608 23 (by omega) (Nat.mod_lt _ (by decide)) rfl 8388608 rfl
    refine ftoa32_norm f f _ _ _ rfl (by omega) (by omega) rfl hE hfr (by omega) (by omega) (by omega) (by omega) _ rfl hM0 hM1 (fun w => ?_)
    have h1 := Tryz.bits_Len64 (bits BinOp.or IntKind.u64 ((f % 8388608 : Nat) : Int) 8388608) w (by omega) (by omega)
    have h2 : Lib.bitLen (bits BinOp.or IntKind.u64 ((f % 8388608 : Nat) : Int) 8388608).toNat = 24 := bitLen_top _ 23 (by omega) (by omega) (by omega)
    rw [h2] at h1
    exact h1
  · rw [h] at hE
    rcases (by omega : f % 8388608 = 0 ∨ 1 ≤ f % 8388608) with h0 | h0
    · exact ftoa32_zero f f _ _ _ rfl (by omega) (by omega) rfl hE hfr (by omega) (by omega) rfl (by omega)
    · have hlt : f % 8388608 < 2 ^ 23 := Nat.mod_lt _ (by decide)
      refine ftoa32_den f f _ _ _ rfl (by omega) (by omega) rfl hE hfr (by omega) (by omega) rfl (by simp; omega) (Lib.bitLen (f % 8388608)) (bitLen_pos _ h0 (by omega)) (Lib.bitLen_le _ 23 (by omega) hlt) _ rfl (wr_in _).1 (wr_in _).2 (fun w => ?_)
      exact Tryz.bits_Len64 ((f % 8388608 : Nat) : Int) w (by omega) (by omega)
end Go.Proofs.YtnggkkdcddpjlaaGreatDoor
