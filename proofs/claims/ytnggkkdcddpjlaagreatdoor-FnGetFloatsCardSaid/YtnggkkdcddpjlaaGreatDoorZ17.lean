/- internal/strconv's pack64 and pack32 at the word of a float: what bits they make. -/
import Derived.Test.YtnggkkdcddpjlaaGreatDoorZ11
import Derived.Test.YtnggkkdcddpjlaaGreatDoorZ15
namespace Go.Proofs.YtnggkkdcddpjlaaGreatDoor
open Go.RowKit
set_option linter.unusedVariables false
set_option maxRecDepth 100000
theorem orK64 (a c : Nat) (ha : a < 18446744073709551616) (hc : c < 18446744073709551616) : bits BinOp.or IntKind.u64 (a : Int) (c : Int) = ((a ||| c : Nat) : Int) := by
  have h : bits BinOp.or IntKind.u64 (a : Int) (c : Int) = IntKind.u64.wrap ((BitVec.ofInt 64 (a : Int) ||| BitVec.ofInt 64 (c : Int)).toNat : Nat) := rfl
  rw [h, IntKind.wrap_u64, BitVec.toNat_or, BitVec.toNat_ofInt, BitVec.toNat_ofInt]
  have h1 : (((a : Int) % ((2 ^ 64 : Nat) : Int)).toNat) = a := by omega
  have h2 : (((c : Int) % ((2 ^ 64 : Nat) : Int)).toNat) = c := by omega
  rw [h1, h2]
  have h3 : a ||| c < 2 ^ 64 := Nat.or_lt_two_pow (by omega) (by omega)
  omega
theorem andK64 (a c : Nat) (ha : a < 18446744073709551616) (hc : c < 18446744073709551616) : bits BinOp.and IntKind.u64 (a : Int) (c : Int) = ((a &&& c : Nat) : Int) := by
  have h : bits BinOp.and IntKind.u64 (a : Int) (c : Int) = IntKind.u64.wrap ((BitVec.ofInt 64 (a : Int) &&& BitVec.ofInt 64 (c : Int)).toNat : Nat) := rfl
  rw [h, IntKind.wrap_u64, BitVec.toNat_and, BitVec.toNat_ofInt, BitVec.toNat_ofInt]
  have h1 : (((a : Int) % ((2 ^ 64 : Nat) : Int)).toNat) = a := by omega
  have h2 : (((c : Int) % ((2 ^ 64 : Nat) : Int)).toNat) = c := by omega
  rw [h1, h2]
  have h3 : a &&& c ≤ a := Nat.and_le_left
  omega
theorem anotK64 (a c : Nat) (ha : a < 18446744073709551616) (hc : c < 18446744073709551616) : bits BinOp.andNot IntKind.u64 (a : Int) (c : Int) = ((a &&& (2 ^ 64 - (c + 1)) : Nat) : Int) := by
  have h : bits BinOp.andNot IntKind.u64 (a : Int) (c : Int) = IntKind.u64.wrap ((BitVec.ofInt 64 (a : Int) &&& ~~~ BitVec.ofInt 64 (c : Int)).toNat : Nat) := rfl
  rw [h, IntKind.wrap_u64, BitVec.toNat_and, BitVec.toNat_not, BitVec.toNat_ofInt, BitVec.toNat_ofInt]
  have h1 : (((a : Int) % ((2 ^ 64 : Nat) : Int)).toNat) = a := by omega
  have h2 : (((c : Int) % ((2 ^ 64 : Nat) : Int)).toNat) = c := by omega
  rw [h1, h2]
  have h4 : 2 ^ 64 - 1 - c = 2 ^ 64 - (c + 1) := by omega
  rw [h4]
  have h3 : a &&& (2 ^ 64 - (c + 1)) ≤ a := Nat.and_le_left
  omega
theorem orK32 (a c : Nat) (ha : a < 4294967296) (hc : c < 4294967296) : bits BinOp.or IntKind.u32 (a : Int) (c : Int) = ((a ||| c : Nat) : Int) := by
  have h : bits BinOp.or IntKind.u32 (a : Int) (c : Int) = IntKind.u32.wrap ((BitVec.ofInt 32 (a : Int) ||| BitVec.ofInt 32 (c : Int)).toNat : Nat) := rfl
  rw [h, IntKind.wrap_u32, BitVec.toNat_or, BitVec.toNat_ofInt, BitVec.toNat_ofInt]
  have h1 : (((a : Int) % ((2 ^ 32 : Nat) : Int)).toNat) = a := by omega
  have h2 : (((c : Int) % ((2 ^ 32 : Nat) : Int)).toNat) = c := by omega
  rw [h1, h2]
  have h3 : a ||| c < 2 ^ 32 := Nat.or_lt_two_pow (by omega) (by omega)
  omega
theorem andK32 (a c : Nat) (ha : a < 4294967296) (hc : c < 4294967296) : bits BinOp.and IntKind.u32 (a : Int) (c : Int) = ((a &&& c : Nat) : Int) := by
  have h : bits BinOp.and IntKind.u32 (a : Int) (c : Int) = IntKind.u32.wrap ((BitVec.ofInt 32 (a : Int) &&& BitVec.ofInt 32 (c : Int)).toNat : Nat) := rfl
  rw [h, IntKind.wrap_u32, BitVec.toNat_and, BitVec.toNat_ofInt, BitVec.toNat_ofInt]
  have h1 : (((a : Int) % ((2 ^ 32 : Nat) : Int)).toNat) = a := by omega
  have h2 : (((c : Int) % ((2 ^ 32 : Nat) : Int)).toNat) = c := by omega
  rw [h1, h2]
  have h3 : a &&& c ≤ a := Nat.and_le_left
  omega
theorem anotK32 (a c : Nat) (ha : a < 4294967296) (hc : c < 4294967296) : bits BinOp.andNot IntKind.u32 (a : Int) (c : Int) = ((a &&& (2 ^ 32 - (c + 1)) : Nat) : Int) := by
  have h : bits BinOp.andNot IntKind.u32 (a : Int) (c : Int) = IntKind.u32.wrap ((BitVec.ofInt 32 (a : Int) &&& ~~~ BitVec.ofInt 32 (c : Int)).toNat : Nat) := rfl
  rw [h, IntKind.wrap_u32, BitVec.toNat_and, BitVec.toNat_not, BitVec.toNat_ofInt, BitVec.toNat_ofInt]
  have h1 : (((a : Int) % ((2 ^ 32 : Nat) : Int)).toNat) = a := by omega
  have h2 : (((c : Int) % ((2 ^ 32 : Nat) : Int)).toNat) = c := by omega
  rw [h1, h2]
  have h4 : 2 ^ 32 - 1 - c = 2 ^ 32 - (c + 1) := by omega
  rw [h4]
  have h3 : a &&& (2 ^ 32 - (c + 1)) ≤ a := Nat.and_le_left
  omega
theorem add_or (i a b : Nat) (h : b < 2 ^ i) : 2 ^ i * a + b = 2 ^ i * a ||| b := Nat.two_pow_add_eq_or_of_lt h a
theorem anot_at (w i hi lo : Nat) (hlo : lo < 2 ^ i) (hiw : 2 ^ i < 2 ^ w) (hz : 2 ^ (i + 1) * hi + lo < 2 ^ w) : (2 ^ (i + 1) * hi + (2 ^ i + lo)) &&& (2 ^ w - (2 ^ i + 1)) = 2 ^ (i + 1) * hi + lo := by
  have p : 2 ^ (i + 1) = 2 * 2 ^ i := by rw [Nat.pow_succ, Nat.mul_comm]
  have e1 : 2 ^ i + lo = 2 ^ i ||| lo := by
    have := add_or i 1 lo hlo
    rw [Nat.mul_one] at this
    exact this
  have e2 : 2 ^ (i + 1) * hi + (2 ^ i + lo) = 2 ^ (i + 1) * hi ||| (2 ^ i ||| lo) := by
    rw [add_or (i + 1) hi (2 ^ i + lo) (by omega), e1]
  have e3 : 2 ^ (i + 1) * hi + lo = 2 ^ (i + 1) * hi ||| lo := add_or (i + 1) hi lo (by omega)
  have hb : (2 ^ (i + 1) * hi + lo).testBit i = false := by
    have hd : decide (i ≥ i + 1) = false := by simp
    rw [e3, Nat.testBit_or, Nat.testBit_two_pow_mul, Nat.testBit_lt_two_pow hlo, hd]
    rfl
  have hbig : ∀ j, w ≤ j → (2 ^ (i + 1) * hi + lo).testBit j = false := fun j hj => Nat.testBit_lt_two_pow (Nat.lt_of_lt_of_le hz (Nat.pow_le_pow_right (by decide) hj))
  refine Nat.eq_of_testBit_eq fun j => ?_
  rw [Nat.testBit_and, Nat.testBit_two_pow_sub_succ hiw]
  have e4 : (2 ^ (i + 1) * hi + (2 ^ i + lo)).testBit j = ((2 ^ (i + 1) * hi + lo).testBit j || decide (i = j)) := by
    rw [e2, e3, Nat.testBit_or, Nat.testBit_or, Nat.testBit_or, Nat.testBit_two_pow]
    cases (2 ^ (i + 1) * hi).testBit j <;> cases lo.testBit j <;> cases decide (i = j) <;> rfl
  rw [e4, Nat.testBit_two_pow]
  by_cases hj : i = j
  · subst hj
    rw [hb]
    simp
  · by_cases hw : j < w
    · simp [hj, hw]
    · rw [hbig j (by omega)]
      simp [hj, hw]
theorem or_mid (i j σ E lo : Nat) (hlo : lo < 2 ^ i) (h : 2 ^ i * E + lo < 2 ^ j) : (2 ^ j * σ + lo) ||| (2 ^ i * E) = 2 ^ j * σ + (2 ^ i * E + lo) := by
  have hl : lo < 2 ^ j := by omega
  rw [add_or j σ lo hl, add_or j σ (2 ^ i * E + lo) h, add_or i E lo hlo, Nat.or_assoc, Nat.or_comm lo]
theorem and_pow (n i : Nat) : n &&& 2 ^ i = if n / 2 ^ i % 2 = 1 then 2 ^ i else 0 := by
  have hb : n.testBit i = decide (n / 2 ^ i % 2 = 1) := Nat.testBit_eq_decide_div_mod_eq
  refine Nat.eq_of_testBit_eq fun j => ?_
  rw [Nat.testBit_and, Nat.testBit_two_pow]
  by_cases hj : i = j
  · subst hj
    rw [hb]
    split
    · rename_i h; simp [h]
    · rename_i h; simp [h]
  · split
    · rw [Nat.testBit_two_pow]; simp [hj]
    · simp [hj]
/-- The sign's word. -/
def sgW (W : Nat) (ng : Bool) : Nat := if ng = true then W else 0
theorem frombits32 (n : Nat) (w : World) : (callFunc 243 #[.int .u32 (n : Int)]).run Tryz.prog w = .ok (.value (.float .f32 n)) w := by kernel_rfl
/-- pack64 at a float's word. -/
theorem pack64_at (ng : Bool) (M : Nat) (k : Int) (hM0 : 0 < M) (hM1 : M < 9007199254740992) (hk : -1074 ≤ k) (hn : 4503599627370496 ≤ M ∨ k = -1074) (hfin : (k + 1074).toNat * 4503599627370496 + M < FloatKind.f64.format.infRung) (w : World) :
    Calls Tryz.prog 260 #[.int .u64 (bits BinOp.or IntKind.u64 (sgW 9223372036854775808 ng) (M : Int)), .int .i64 k] w fun r w' => r = .returned (.tuple #[.float .f64 (FloatKind.f64.format.word ng ((k + 1074).toNat * 4503599627370496 + M)), erV false]) ∧ w' = w := by
  have hI : FloatKind.f64.format.infRung = 9218868437227405312 := by decide
  have hS : FloatKind.f64.format.signWeight = 9223372036854775808 := by decide
  rw [hI] at hfin
  obtain ⟨σ, hσ, hσ1⟩ : ∃ σ : Nat, sgW 9223372036854775808 ng = 9223372036854775808 * σ ∧ σ ≤ 1 := by
    unfold sgW
    cases ng
    · exact ⟨0, rfl, by omega⟩
    · exact ⟨1, rfl, by omega⟩
  have hw : ∀ r, FloatKind.f64.format.word ng r = 9223372036854775808 * σ + r := fun r => by
    unfold sgW at hσ
    unfold Ieee.Format.word
    rw [hS]
    cases ng
    · simp only [Bool.false_eq_true, if_false] at hσ ⊢
      omega
    · simp only [if_true] at hσ ⊢
      omega
  have e1 : bits BinOp.or IntKind.u64 (sgW 9223372036854775808 ng) (M : Int) = ((9223372036854775808 * σ + M : Nat) : Int) := by
    rw [orK64 _ _ (by omega) (by omega), hσ]
    congr 1
    exact (add_or 63 σ M (by omega)).symm
  rw [e1, hw]
  have ea : bits BinOp.and IntKind.u64 ((9223372036854775808 * σ + M : Nat) : Int) 4503599627370496 = (((9223372036854775808 * σ + M) &&& 2 ^ 52 : Nat) : Int) := andK64 _ 4503599627370496 (by omega) (by decide)
  rw [and_pow] at ea
  rcases (by omega : M < 4503599627370496 ∨ 4503599627370496 ≤ M) with h | h
  · have h0 : (bits BinOp.and IntKind.u64 ((9223372036854775808 * σ + M : Nat) : Int) 4503599627370496 == 0) = true := by
      rw [ea, if_neg (by omega)]
      rfl
    have hk0 : (k + 1074).toNat = 0 := by omega
    rw [hk0, Nat.zero_mul, Nat.zero_add]
    obtain ⟨N, hN⟩ : ∃ N : Nat, N = 9223372036854775808 * σ + M := ⟨_, rfl⟩
    rw [← hN] at h0 ⊢
    have hN0 : 0 ≤ (N : Int) := by omega
    have hN1 : (N : Int) < 18446744073709551616 := by omega
    have hb := fun w => frombits64 N w
    clear ea e1 hw hfin hN hσ
    go_enter Tryz.func260, Tryz.ntmps260
    go_wp2
    go_ret2
    exact ⟨rfl, rfl⟩
  · have h0 : (bits BinOp.and IntKind.u64 ((9223372036854775808 * σ + M : Nat) : Int) 4503599627370496 == 0) = false := by
      rw [ea, if_pos (by omega)]
      rfl
    obtain ⟨lo, hlo⟩ : ∃ lo, M = 4503599627370496 + lo := ⟨M - 4503599627370496, by omega⟩
    obtain ⟨E, hE⟩ : ∃ E : Nat, (1075 + k) = E := ⟨(1075 + k).toNat, by omega⟩
    have hE1 : E ≤ 2046 := by omega
    have e2 : bits BinOp.andNot IntKind.u64 ((9223372036854775808 * σ + M : Nat) : Int) 4503599627370496 = ((2 ^ 63 * σ + lo : Nat) : Int) := by
      have h1 := anotK64 (9223372036854775808 * σ + M) 4503599627370496 (by omega) (by decide)
      have h2 := anot_at 64 52 (1024 * σ) lo (by omega) (by decide) (by omega)
      have e4 : 2 ^ (52 + 1) * (1024 * σ) + (2 ^ 52 + lo) = 9223372036854775808 * σ + M := by omega
      have e5 : 2 ^ (52 + 1) * (1024 * σ) + lo = 2 ^ 63 * σ + lo := by omega
      rw [e4, e5] at h2
      rw [← h2]
      exact h1
    have e3 : (1075 + k) * 4503599627370496 = ((2 ^ 52 * E : Nat) : Int) := by
      rw [hE]
      omega
    have e6 : bits BinOp.or IntKind.u64 ((2 ^ 63 * σ + lo : Nat) : Int) ((2 ^ 52 * E : Nat) : Int) = (((2 ^ 63 * σ + (2 ^ 52 * E + lo)) : Nat) : Int) := by
      rw [orK64 _ _ (by omega) (by omega), or_mid 52 63 σ E lo (by omega) (by omega)]
    have e7 : 9223372036854775808 * σ + ((k + 1074).toNat * 4503599627370496 + M) = 2 ^ 63 * σ + (2 ^ 52 * E + lo) := by
      have : (k + 1074).toNat + 1 = E := by omega
      omega
    rw [e7]
    obtain ⟨A, hA⟩ : ∃ A : Int, A = bits BinOp.andNot IntKind.u64 ((9223372036854775808 * σ + M : Nat) : Int) 4503599627370496 := ⟨_, rfl⟩
    rw [← hA] at e2
    have hOr : bits BinOp.or IntKind.u64 A ((1075 + k) * 4503599627370496) = (((2 ^ 63 * σ + (2 ^ 52 * E + lo)) : Nat) : Int) := by rw [e2, e3, e6]
    obtain ⟨N, hN⟩ : ∃ N : Nat, N = 2 ^ 63 * σ + (2 ^ 52 * E + lo) := ⟨_, rfl⟩
    rw [← hN] at hOr ⊢
    obtain ⟨X, hX⟩ : ∃ X : Int, X = ((9223372036854775808 * σ + M : Nat) : Int) := ⟨_, rfl⟩
    rw [← hX] at h0 hA ⊢
    rw [hA] at hOr
    have hX0 : 0 ≤ X := by omega
    have hX1 : X < 18446744073709551616 := by omega
    have hb := fun w => frombits64 N w
    have hk1 : k < 972 := by omega
    have hk2 : ¬ (972 : Int) ≤ k := by omega
    clear ea e1 e2 e3 e6 e7 hw hfin hN hσ hX hA hlo hE
    go_enter Tryz.func260, Tryz.ntmps260
    go_wp2
    go_ret2
    exact ⟨rfl, rfl⟩
/-- pack32 at a float's word. -/
theorem pack32_at (ng : Bool) (M : Nat) (k : Int) (hM0 : 0 < M) (hM1 : M < 16777216) (hk : -149 ≤ k) (hn : 8388608 ≤ M ∨ k = -149) (hfin : (k + 149).toNat * 8388608 + M < FloatKind.f32.format.infRung) (w : World) :
    Calls Tryz.prog 258 #[.int .u32 (bits BinOp.or IntKind.u32 (sgW 2147483648 ng) (M : Int)), .int .i64 k] w fun r w' => r = .returned (.tuple #[.float .f32 (FloatKind.f32.format.word ng ((k + 149).toNat * 8388608 + M)), erV false]) ∧ w' = w := by
  have hI : FloatKind.f32.format.infRung = 2139095040 := by decide
  have hS : FloatKind.f32.format.signWeight = 2147483648 := by decide
  rw [hI] at hfin
  obtain ⟨σ, hσ, hσ1⟩ : ∃ σ : Nat, sgW 2147483648 ng = 2147483648 * σ ∧ σ ≤ 1 := by
    unfold sgW
    cases ng
    · exact ⟨0, rfl, by omega⟩
    · exact ⟨1, rfl, by omega⟩
  have hw : ∀ r, FloatKind.f32.format.word ng r = 2147483648 * σ + r := fun r => by
    unfold sgW at hσ
    unfold Ieee.Format.word
    rw [hS]
    cases ng
    · simp only [Bool.false_eq_true, if_false] at hσ ⊢
      omega
    · simp only [if_true] at hσ ⊢
      omega
  have e1 : bits BinOp.or IntKind.u32 (sgW 2147483648 ng) (M : Int) = ((2147483648 * σ + M : Nat) : Int) := by
    rw [orK32 _ _ (by omega) (by omega), hσ]
    congr 1
    exact (add_or 31 σ M (by omega)).symm
  rw [e1, hw]
  have ea : bits BinOp.and IntKind.u32 ((2147483648 * σ + M : Nat) : Int) 8388608 = (((2147483648 * σ + M) &&& 2 ^ 23 : Nat) : Int) := andK32 _ 8388608 (by omega) (by decide)
  rw [and_pow] at ea
  rcases (by omega : M < 8388608 ∨ 8388608 ≤ M) with h | h
  · have h0 : (bits BinOp.and IntKind.u32 ((2147483648 * σ + M : Nat) : Int) 8388608 == 0) = true := by
      rw [ea, if_neg (by omega)]
      rfl
    have hk0 : (k + 149).toNat = 0 := by omega
    rw [hk0, Nat.zero_mul, Nat.zero_add]
    obtain ⟨N, hN⟩ : ∃ N : Nat, N = 2147483648 * σ + M := ⟨_, rfl⟩
    rw [← hN] at h0 ⊢
    have hN0 : 0 ≤ (N : Int) := by omega
    have hN1 : (N : Int) < 4294967296 := by omega
    have hb := fun w => frombits32 N w
    clear ea e1 hw hfin hN hσ
    go_enter Tryz.func258, Tryz.ntmps258
    go_wp2
    go_ret2
    exact ⟨rfl, rfl⟩
  · have h0 : (bits BinOp.and IntKind.u32 ((2147483648 * σ + M : Nat) : Int) 8388608 == 0) = false := by
      rw [ea, if_pos (by omega)]
      rfl
    obtain ⟨lo, hlo⟩ : ∃ lo, M = 8388608 + lo := ⟨M - 8388608, by omega⟩
    obtain ⟨E, hE⟩ : ∃ E : Nat, (150 + k) = E := ⟨(150 + k).toNat, by omega⟩
    have hE1 : E ≤ 254 := by omega
    have e2 : bits BinOp.andNot IntKind.u32 ((2147483648 * σ + M : Nat) : Int) 8388608 = ((2 ^ 31 * σ + lo : Nat) : Int) := by
      have h1 := anotK32 (2147483648 * σ + M) 8388608 (by omega) (by decide)
      have h2 := anot_at 32 23 (128 * σ) lo (by omega) (by decide) (by omega)
      have e4 : 2 ^ (23 + 1) * (128 * σ) + (2 ^ 23 + lo) = 2147483648 * σ + M := by omega
      have e5 : 2 ^ (23 + 1) * (128 * σ) + lo = 2 ^ 31 * σ + lo := by omega
      rw [e4, e5] at h2
      rw [← h2]
      exact h1
    have e3 : (150 + k) * 8388608 = ((2 ^ 23 * E : Nat) : Int) := by
      rw [hE]
      omega
    have e6 : bits BinOp.or IntKind.u32 ((2 ^ 31 * σ + lo : Nat) : Int) ((2 ^ 23 * E : Nat) : Int) = (((2 ^ 31 * σ + (2 ^ 23 * E + lo)) : Nat) : Int) := by
      rw [orK32 _ _ (by omega) (by omega), or_mid 23 31 σ E lo (by omega) (by omega)]
    have e7 : 2147483648 * σ + ((k + 149).toNat * 8388608 + M) = 2 ^ 31 * σ + (2 ^ 23 * E + lo) := by
      have : (k + 149).toNat + 1 = E := by omega
      omega
    rw [e7]
    obtain ⟨A, hA⟩ : ∃ A : Int, A = bits BinOp.andNot IntKind.u32 ((2147483648 * σ + M : Nat) : Int) 8388608 := ⟨_, rfl⟩
    rw [← hA] at e2
    have hOr : bits BinOp.or IntKind.u32 A ((150 + k) * 8388608) = (((2 ^ 31 * σ + (2 ^ 23 * E + lo)) : Nat) : Int) := by rw [e2, e3, e6]
    obtain ⟨N, hN⟩ : ∃ N : Nat, N = 2 ^ 31 * σ + (2 ^ 23 * E + lo) := ⟨_, rfl⟩
    rw [← hN] at hOr ⊢
    obtain ⟨X, hX⟩ : ∃ X : Int, X = ((2147483648 * σ + M : Nat) : Int) := ⟨_, rfl⟩
    rw [← hX] at h0 hA ⊢
    rw [hA] at hOr
    have hX0 : 0 ≤ X := by omega
    have hX1 : X < 4294967296 := by omega
    have hb := fun w => frombits32 N w
    have hk1 : k < 105 := by omega
    have hk2 : ¬ (105 : Int) ≤ k := by omega
    clear ea e1 e2 e3 e6 e7 hw hfin hN hσ hX hA hlo hE
    go_enter Tryz.func258, Tryz.ntmps258
    go_wp2
    go_ret2
    exact ⟨rfl, rfl⟩
end Go.Proofs.YtnggkkdcddpjlaaGreatDoor
