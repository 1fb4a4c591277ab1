/- scl (uscale at a row of the table) is the unrounded number: for what shortFloat scales and for what parseFloat scales. The unrounded number against the scaled one, as rational numbers. shortFloat's answer lies in the float's rounding interval: in letters. shortFloat's answer lies in the float's rounding interval: with the table's certificates. Rounding to the nearest: an unrounded number whose value lies in a float's interval rounds to that float's mantissa. Rounding to the nearest word of a format: where a value lies in a rung's interval, the nearest word is that rung. -/
import Derived.Test.YtnggkkdcddpjlaaGreatDoorZ13
import Derived.Test.YtnggkkdcddpjlaaGreatDoorZ10
import Derived.Laws.FloatArith
namespace Go.Proofs.YtnggkkdcddpjlaaGreatDoor
open Go.RowKit
set_option linter.unusedVariables false
set_option maxRecDepth 100000
theorem row_ceil (p : Int) (h0 : -348 ≤ p) (h1 : p ≤ 347) : ∃ P, P + pLo (p + 348).toNat = pHi (p + 348).toNat * 18446744073709551616 ∧ tA p ≤ P * tB p ∧ P * tB p < tA p + tB p := by
  have h := ceilsB_at Pinned.pow10Rows 0 ceil_all (p + 348).toNat (by rw [show Pinned.pow10Rows.length = 696 from by kernel_rfl]; omega)
  have e : (((0 + (p + 348).toNat : Nat) : Int) - 348) = p := by omega
  rw [e] at h
  unfold ceilB at h
  simp only [Bool.and_eq_true, decide_eq_true_eq] at h
  obtain ⟨⟨h2, h3⟩, h4⟩ := h
  unfold pHi pLo
  refine ⟨_, ?_, h2, h3⟩
  omega
/-- The gap at a greater shift. -/
theorem gap_up {A B n : Nat} {sh s : Nat} (hs : sh ≤ s) (h : Gap (A : Int) ((B * 2 ^ sh : Nat) : Int) ((B * 2 ^ 65 : Nat) : Int) n) (x T : Nat) (hT : T = n * A) (M : Nat) (hM : M = B * 2 ^ s) (w : Nat) (hw : w = B * 2 ^ 65) :
    ∀ q r : Int, ((T : Nat) : Int) - ((M : Nat) : Int) * q = r → r = 0 ∨ ((w : Nat) : Int) ≤ r ∨ r ≤ -((w : Nat) : Int) := by
  intro q r hr
  have e : M = B * 2 ^ sh * 2 ^ (s - sh) := by
    rw [hM, Nat.mul_assoc, ← Nat.pow_add]
    congr 2
    omega
  rw [hw]
  refine h (((2 ^ (s - sh) : Nat) : Int) * q) r ?_
  have e2 : ((M : Nat) : Int) = ((B * 2 ^ sh : Nat) : Int) * ((2 ^ (s - sh) : Nat) : Int) := by rw [e, Int.natCast_mul]
  have e3 : ((T : Nat) : Int) = (n : Int) * (A : Int) := by rw [hT, Int.natCast_mul]
  rw [← hr, e2, e3, Int.mul_assoc]
theorem pow_split (s : Nat) (B : Nat) : B * 18446744073709551616 * (18446744073709551616 * 2 ^ s) = B * 2 ^ (128 + s) := by
  have e : (2 : Nat) ^ (128 + s) = 2 ^ 64 * (2 ^ 64 * 2 ^ s) := by rw [← Nat.pow_add, ← Nat.pow_add]; congr 1; omega
  have e2 : (2 : Nat) ^ 64 = 18446744073709551616 := by decide
  rw [e, e2, Nat.mul_assoc]
theorem scl_gen (e p : Int) (x : Nat) (hp0 : -348 ≤ p) (hp1 : p ≤ 347) (hx : x < 18446744073709551616) (s : Nat) (hs : (s : Int) = -(e + lpw p + 3)) (hs1 : s ≤ 63)
    (hg : ∀ q r : Int, ((x * tA p : Nat) : Int) - ((tB p * 2 ^ (128 + s) : Nat) : Int) * q = r → r = 0 ∨ ((tB p * 36893488147419103232 : Nat) : Int) ≤ r ∨ r ≤ -((tB p * 36893488147419103232 : Nat) : Int)) :
    scl e p x = unr (x * tA p) (tB p * 2 ^ (128 + s)) := by
  obtain ⟨P, hP, k1, k2⟩ := row_ceil p hp0 hp1
  obtain ⟨w1, w2⟩ := getD_in (p + 348).toNat
  have := usc_unr (tA p) (tB p) x P (pHi (p + 348).toNat) (pLo (p + 348).toNat) s (tB_pos p) hP k1 k2 hx w1 w2 hs1 (by rw [pow_split]; exact hg)
  rw [pow_split] at this
  unfold scl
  have hsx : -(e + p * 108853 / 32768 + 3) % 64 = (s : Int) := by
    have : e + lpw p + 3 = e + p * 108853 / 32768 + 3 := rfl
    omega
  rw [hsx, Int.toNat_natCast]
  exact this
/-- For the making of texts: multiples of 2^9. -/
theorem scl_fm (e p : Int) (n : Nat) (hp0 : -348 ≤ p) (hp1 : p ≤ 347) (hn0 : 0 < n) (hn : n < 36028797018963968) (s : Nat) (hs : (s : Int) = -(e + lpw p + 3)) (hs0 : 5 ≤ s) (hs1 : s ≤ 63) :
    scl e p ((n * 512 : Nat) : Int) = unr (n * 512 * tA p) (tB p * 2 ^ (128 + s)) := by
  have h := gapsB_at 9 133 36028797018963967 fmC 0 fm_all (p + 348).toNat (by rw [fm_len]; omega)
  have e1 : (((0 + (p + 348).toNat : Nat) : Int) - 348) = p := by omega
  rw [e1] at h
  refine scl_gen e p (n * 512) hp0 hp1 (by omega) s hs hs1 ?_
  have e9 : (2 : Nat) ^ 9 = 512 := by decide
  have e65 : (2 : Nat) ^ 65 = 36893488147419103232 := by decide
  exact gap_up (sh := 133) (s := 128 + s) (by omega) (gap_of h n (by omega) (by omega)) 0 _ (by rw [e9, Nat.mul_assoc, Nat.mul_comm 512]) _ rfl _ (by rw [e65])
/-- For the reading of texts: multiples of 2^7. -/
theorem scl_pa (e p : Int) (n : Nat) (hp0 : -348 ≤ p) (hp1 : p ≤ 347) (hn0 : 0 < n) (hn : n < 144115188075855872) (s : Nat) (hs : (s : Int) = -(e + lpw p + 3)) (hs0 : 8 ≤ s) (hs1 : s ≤ 63) :
    scl e p ((n * 128 : Nat) : Int) = unr (n * 128 * tA p) (tB p * 2 ^ (128 + s)) := by
  have h := gapsB_at 7 136 144115188075855871 paC 0 pa_all (p + 348).toNat (by rw [pa_len]; omega)
  have e1 : (((0 + (p + 348).toNat : Nat) : Int) - 348) = p := by omega
  rw [e1] at h
  refine scl_gen e p (n * 128) hp0 hp1 (by omega) s hs hs1 ?_
  have e9 : (2 : Nat) ^ 7 = 128 := by decide
  have e65 : (2 : Nat) ^ 65 = 36893488147419103232 := by decide
  exact gap_up (sh := 136) (s := 128 + s) (by omega) (gap_of h n (by omega) (by omega)) 0 _ (by rw [e9, Nat.mul_assoc, Nat.mul_comm 128]) _ rfl _ (by rw [e65])
end Go.Proofs.YtnggkkdcddpjlaaGreatDoor
namespace Go.Proofs.YtnggkkdcddpjlaaGreatDoor
open Go.RowKit
set_option linter.unusedVariables false
set_option maxRecDepth 100000
/-- u is X, unrounded: as X does, so u lies to each even number. -/
def Unr (u : Int) (X : Rat) : Prop := ∀ d : Int, (u ≤ 2 * d ↔ X ≤ ((2 * d : Int) : Rat)) ∧ (2 * d ≤ u ↔ ((2 * d : Int) : Rat) ≤ X)
theorem unr_int (T M : Nat) (hM : 0 < M) (d : Int) : (unr T M ≤ 2 * d ↔ (T : Int) ≤ 2 * d * M) ∧ (2 * d ≤ unr T M ↔ 2 * d * M ≤ (T : Int)) := by
  have hdm := Nat.div_add_mod T M
  have hlt := Nat.mod_lt T hM
  unfold unr
  obtain ⟨f, hf⟩ : ∃ f, f = T / M := ⟨_, rfl⟩
  obtain ⟨r, hr⟩ : ∃ r, r = T % M := ⟨_, rfl⟩
  rw [← hf, ← hr] at hdm
  rw [← hr] at hlt
  rw [← hf, ← hr]
  have hT : (T : Int) = (M : Int) * (f : Int) + (r : Int) := by rw [← hdm, Int.natCast_add, Int.natCast_mul]
  have hMp : (0 : Int) < M := by omega
  have key : ∀ a b : Int, a ≤ b → (M : Int) * a ≤ (M : Int) * b := fun a b h => Int.mul_le_mul_of_nonneg_left h (by omega)
  have e : 2 * d * (M : Int) = (M : Int) * (2 * d) := Int.mul_comm _ _
  rw [hT, e]
  by_cases h0 : r = 0
  · rw [if_pos h0]
    refine ⟨⟨fun h => ?_, fun h => ?_⟩, ⟨fun h => ?_, fun h => ?_⟩⟩
    · have := key _ _ h; omega
    · rcases Int.lt_or_le (2 * d) f with h1 | h1
      · have := key (2 * d + 1) f (by omega)
        rw [Int.mul_add] at this
        omega
      · exact h1
    · have := key _ _ h; omega
    · rcases Int.lt_or_le (f : Int) (2 * d) with h1 | h1
      · have := key ((f : Int) + 1) (2 * d) (by omega)
        rw [Int.mul_add] at this
        omega
      · exact h1
  · rw [if_neg h0]
    refine ⟨⟨fun h => ?_, fun h => ?_⟩, ⟨fun h => ?_, fun h => ?_⟩⟩
    · have := key ((f : Int) + 1) (2 * d) (by omega)
      rw [Int.mul_add] at this
      omega
    · rcases Int.lt_or_le (f : Int) (2 * d) with h1 | h1
      · omega
      · have := key (2 * d) f h1
        omega
    · have := key (2 * d) f (by omega)
      omega
    · rcases Int.lt_or_le (f : Int) (2 * d) with h1 | h1
      · have := key ((f : Int) + 1) (2 * d) (by omega)
        rw [Int.mul_add] at this
        omega
      · omega
theorem unr_of (T M : Nat) (hM : 0 < M) : Unr (unr T M) ((T : Rat) / (M : Rat)) := fun d => by
  obtain ⟨h1, h2⟩ := unr_int T M hM d
  have hMp : (0 : Rat) < (M : Rat) := Rat.natCast_pos.2 hM
  have a1 : (T : Rat) / (M : Rat) ≤ ((2 * d : Int) : Rat) ↔ (T : Int) ≤ 2 * d * M := by
    constructor
    · intro h
      have := Rat.mul_le_mul_of_nonneg_right h (Rat.le_of_lt hMp)
      rw [Rat.div_mul_cancel (by grind)] at this
      exact_mod_cast this
    · intro h
      have h3 : (T : Rat) ≤ ((2 * d : Int) : Rat) * (M : Rat) := by exact_mod_cast h
      refine Rat.le_of_mul_le_mul_right ?_ hMp
      rw [Rat.div_mul_cancel (by grind)]
      exact h3
  have a2 : ((2 * d : Int) : Rat) ≤ (T : Rat) / (M : Rat) ↔ 2 * d * M ≤ (T : Int) := by
    constructor
    · intro h
      have := Rat.mul_le_mul_of_nonneg_right h (Rat.le_of_lt hMp)
      rw [Rat.div_mul_cancel (by grind)] at this
      exact_mod_cast this
    · intro h
      have h3 : ((2 * d : Int) : Rat) * (M : Rat) ≤ (T : Rat) := by exact_mod_cast h
      refine Rat.le_of_mul_le_mul_right ?_ hMp
      rw [Rat.div_mul_cancel (by grind)]
      exact h3
  exact ⟨h1.trans a1.symm, h2.trans a2.symm⟩
theorem zsplit (b : Rat) (hb : b ≠ 0) (z : Int) : b ^ z * b ^ ((-z).toNat) = b ^ (z.toNat) := by
  rw [← Rat.zpow_natCast, ← Rat.zpow_natCast, ← Rat.zpow_add hb]
  congr 1
  omega
theorem tab_rat (p : Int) : ((tA p : Nat) : Rat) = (10 : Rat) ^ p * (2 : Rat) ^ (127 - lpw p) * ((tB p : Nat) : Rat) := by
  have h1 := zsplit 10 (by decide) p
  have h2 := zsplit 2 (by decide) (127 - lpw p)
  have e : (-(127 - lpw p)).toNat = (lpw p - 127).toNat := by congr 1; omega
  rw [e] at h2
  unfold tA tB
  rw [Rat.natCast_mul, Rat.natCast_mul, Rat.natCast_pow, Rat.natCast_pow, Rat.natCast_pow, Rat.natCast_pow]
  have e10 : ((10 : Nat) : Rat) = 10 := rfl
  have e2 : ((2 : Nat) : Rat) = 2 := rfl
  rw [e10, e2, ← h1, ← h2]
  grind
/-- The scaled number, four times. -/
theorem x4_rat (x : Nat) (e p : Int) (s : Nat) (hs : (s : Int) = -(e + lpw p + 3)) : ((x * tA p : Nat) : Rat) / ((tB p * 2 ^ (128 + s) : Nat) : Rat) = (x : Rat) * (10 : Rat) ^ p * (2 : Rat) ^ (e + 2) := by
  have hB : ((tB p : Nat) : Rat) ≠ 0 := by
    have := Rat.natCast_pos.2 (tB_pos p)
    grind
  have h2 : ((2 ^ (128 + s) : Nat) : Rat) = (2 : Rat) ^ ((128 : Int) + s) := by
    rw [Rat.natCast_pow, ← Rat.zpow_natCast]
    congr 1
  have h3 : (2 : Rat) ^ (127 - lpw p) = (2 : Rat) ^ (e + 2) * (2 : Rat) ^ ((128 : Int) + s) := by
    rw [← Rat.zpow_add (by decide)]
    congr 1
    omega
  have h4 : (0 : Rat) < (2 : Rat) ^ ((128 : Int) + s) := Rat.zpow_pos (by decide)
  rw [Rat.natCast_mul, Rat.natCast_mul, tab_rat, h2, h3]
  generalize (2 : Rat) ^ ((128 : Int) + s) = y at h4 ⊢
  generalize ((tB p : Nat) : Rat) = b at hB ⊢
  have hy : y ≠ 0 := by grind
  grind
theorem scl_unr_fm (e p : Int) (n : Nat) (hp0 : -348 ≤ p) (hp1 : p ≤ 347) (hn0 : 0 < n) (hn : n < 36028797018963968) (hs0 : e + lpw p + 3 ≤ -5) (hs1 : -63 ≤ e + lpw p + 3) :
    Unr (scl e p ((n * 512 : Nat) : Int)) (((n * 512 : Nat) : Rat) * (10 : Rat) ^ p * (2 : Rat) ^ (e + 2)) := by
  obtain ⟨s, hs⟩ : ∃ s : Nat, (s : Int) = -(e + lpw p + 3) := ⟨(-(e + lpw p + 3)).toNat, by omega⟩
  rw [scl_fm e p n hp0 hp1 hn0 hn s hs (by omega) (by omega), ← x4_rat (n * 512) e p s hs]
  exact unr_of _ _ (Nat.mul_pos (tB_pos p) (Nat.two_pow_pos _))
theorem scl_unr_pa (e p : Int) (n : Nat) (hp0 : -348 ≤ p) (hp1 : p ≤ 347) (hn0 : 0 < n) (hn : n < 144115188075855872) (hs0 : e + lpw p + 3 ≤ -8) (hs1 : -63 ≤ e + lpw p + 3) :
    Unr (scl e p ((n * 128 : Nat) : Int)) (((n * 128 : Nat) : Rat) * (10 : Rat) ^ p * (2 : Rat) ^ (e + 2)) := by
  obtain ⟨s, hs⟩ : ∃ s : Nat, (s : Int) = -(e + lpw p + 3) := ⟨(-(e + lpw p + 3)).toNat, by omega⟩
  rw [scl_pa e p n hp0 hp1 hn0 hn s hs (by omega) (by omega), ← x4_rat (n * 128) e p s hs]
  exact unr_of _ _ (Nat.mul_pos (tB_pos p) (Nat.two_pow_pos _))
end Go.Proofs.YtnggkkdcddpjlaaGreatDoor
namespace Go.Proofs.YtnggkkdcddpjlaaGreatDoor
open Go.RowKit
set_option linter.unusedVariables false
set_option maxRecDepth 100000
/-- A whole number in an interval: the ends belong to it where odd is 0. -/
def InIv (odd : Int) (lo hi : Rat) (t : Int) : Prop := (if odd = 0 then lo ≤ (t : Rat) else lo < (t : Rat)) ∧ (if odd = 0 then (t : Rat) ≤ hi else (t : Rat) < hi)
theorem four (d : Int) : ((2 * (2 * d) : Int) : Rat) = 4 * (d : Rat) := by
  have : 2 * (2 * d) = 4 * d := by omega
  rw [this, Rat.intCast_mul]
  rfl
theorem low_iff {u : Int} {lo : Rat} (h : Unr u (4 * lo)) (odd : Int) (ho : odd = 0 ∨ odd = 1) (d : Int) : (u + odd + 3) / 4 ≤ d ↔ (if odd = 0 then lo ≤ (d : Rat) else lo < (d : Rat)) := by
  obtain ⟨h1, h2⟩ := h (2 * d)
  rw [four] at h1 h2
  rcases ho with rfl | rfl
  · rw [if_pos rfl]
    have a : (u + 0 + 3) / 4 ≤ d ↔ u ≤ 2 * (2 * d) := by omega
    rw [a, h1]
    constructor <;> intro h <;> grind
  · rw [if_neg (by decide)]
    have a : (u + 1 + 3) / 4 ≤ d ↔ ¬ 2 * (2 * d) ≤ u := by omega
    rw [a, h2]
    constructor <;> intro h <;> grind
theorem high_iff {u : Int} {hi : Rat} (h : Unr u (4 * hi)) (odd : Int) (ho : odd = 0 ∨ odd = 1) (d : Int) : d ≤ (u - odd) / 4 ↔ (if odd = 0 then (d : Rat) ≤ hi else (d : Rat) < hi) := by
  obtain ⟨h1, h2⟩ := h (2 * d)
  rw [four] at h1 h2
  rcases ho with rfl | rfl
  · rw [if_pos rfl]
    have a : d ≤ (u - 0) / 4 ↔ 2 * (2 * d) ≤ u := by omega
    rw [a, h2]
    constructor <;> intro h <;> grind
  · rw [if_neg (by decide)]
    have a : d ≤ (u - 1) / 4 ↔ ¬ u ≤ 2 * (2 * d) := by omega
    rw [a, h1]
    constructor <;> intro h <;> grind
theorem and_one (x : Int) (h0 : 0 ≤ x) (h1 : x < 18446744073709551616) : bits BinOp.and IntKind.u64 x 1 = x % 2 := by
  have key : (BitVec.ofInt 64 x &&& BitVec.ofInt 64 1).toNat = x.toNat % 2 := by
    rw [BitVec.toNat_and, BitVec.toNat_ofInt]
    have e1 : (x % ((2 ^ 64 : Nat) : Int)).toNat = x.toNat := by omega
    have e2 : (BitVec.ofInt 64 1).toNat = 2 ^ 1 - 1 := by decide
    rw [e1, e2, Nat.and_two_pow_sub_one_eq_mod]
  show IntKind.u64.wrap ((BitVec.ofInt 64 x &&& BitVec.ofInt 64 1).toNat : Nat) = _
  rw [key, IntKind.wrap_u64]
  omega
theorem rnd_eq (u : Int) (h0 : 0 ≤ u) (h1 : u < 4611686018427387904) : rnd u = (u + 1 + u / 4 % 2) / 4 := by
  unfold rnd
  rw [and_one _ (by omega) (by omega), IntKind.wrap_u64, IntKind.wrap_u64]
  omega
theorem rnd_near {u : Int} {x : Rat} (h : Unr u (4 * x)) : let t := (u + 1 + u / 4 % 2) / 4; 2 * (t : Rat) - 1 ≤ 2 * x ∧ 2 * x ≤ 2 * (t : Rat) + 1 := by
  intro t
  have ht : t = (u + 1 + u / 4 % 2) / 4 := rfl
  clear_value t
  obtain ⟨_, h2⟩ := h (2 * t - 1)
  obtain ⟨h1, _⟩ := h (2 * t + 1)
  have a1 := h2.1 (by omega)
  have a2 := h1.1 (by omega)
  have e1 : ((2 * (2 * t - 1) : Int) : Rat) = 4 * (t : Rat) - 2 := by
    have : 2 * (2 * t - 1) = 4 * t - 2 := by omega
    rw [this, Rat.intCast_sub, Rat.intCast_mul]
    rfl
  have e2 : ((2 * (2 * t + 1) : Int) : Rat) = 4 * (t : Rat) + 2 := by
    have : 2 * (2 * t + 1) = 4 * t + 2 := by omega
    rw [this, Rat.intCast_add, Rat.intCast_mul]
    rfl
  rw [e1] at a1
  rw [e2] at a2
  constructor <;> grind
/-- shortFloat's choice. -/
theorem sf_in (m e q mn mx odd : Int) (lo md hi : Rat) (ho : odd = 0 ∨ odd = 1) (U1 : Unr (scl e (-q) mn) (4 * lo)) (U2 : Unr (scl e (-q) m) (4 * md)) (U3 : Unr (scl e (-q) mx) (4 * hi))
    (b1 : 1 ≤ scl e (-q) mx) (b2 : scl e (-q) mx < 4611686018427387904) (b3 : scl e (-q) m < 4611686018427387904) (b4 : scl e (-q) mn < 4611686018427387904)
    (g1 : lo < md) (g2 : md < hi) (g3 : md - lo ≤ hi - md) (g4 : hi - md ≤ 2 * (md - lo)) (hex : ∃ t : Int, InIv odd lo hi t) :
    ∃ t : Int, InIv odd lo hi t ∧ (((sfTail m e q mn mx odd).2 = q ∧ t = (sfTail m e q mn mx odd).1) ∨ ((sfTail m e q mn mx odd).2 = q + 1 ∧ t = 10 * (sfTail m e q mn mx odd).1)) := by
  obtain ⟨p1, _⟩ := scl_in e (-q) mn
  obtain ⟨p2, _⟩ := scl_in e (-q) m
  obtain ⟨p3, _⟩ := scl_in e (-q) mx
  have L := low_iff U1 odd ho
  have H := high_iff U3 odd ho
  have N := rnd_near U2
  have R := rnd_eq _ p2 b3
  unfold sfTail
  dsimp only
  generalize scl e (-q) mn = u1 at *
  generalize scl e (-q) m = u2 at *
  generalize scl e (-q) mx = u3 at *
  rw [R]
  have e1 : IntKind.u64.wrap (IntKind.u64.wrap (u1 + IntKind.u64.wrap odd) + 3) / 4 = (u1 + odd + 3) / 4 := by
    rw [IntKind.wrap_u64, IntKind.wrap_u64, IntKind.wrap_u64]
    omega
  have e2 : IntKind.u64.wrap (IntKind.u64.wrap (u3 + IntKind.u64.wrap (wrap64 (-odd)))) / 4 = (u3 - odd) / 4 := by
    rw [IntKind.wrap_u64, IntKind.wrap_u64, IntKind.wrap_u64]
    unfold wrap64
    omega
  rw [e1, e2]
  clear e1 e2 R
  obtain ⟨dmin, hmin⟩ : ∃ d, d = (u1 + odd + 3) / 4 := ⟨_, rfl⟩
  obtain ⟨dmax, hmax⟩ : ∃ d, d = (u3 - odd) / 4 := ⟨_, rfl⟩
  obtain ⟨t2, ht2⟩ : ∃ t, t = (u2 + 1 + u2 / 4 % 2) / 4 := ⟨_, rfl⟩
  rw [← hmin] at L ⊢
  rw [← hmax] at H ⊢
  rw [← ht2]
  have N2 : 2 * (t2 : Rat) - 1 ≤ 2 * md ∧ 2 * md ≤ 2 * (t2 : Rat) + 1 := by rw [ht2]; exact N
  clear N
  have hm0 : 0 ≤ dmin := by omega
  have hx0 : 0 ≤ dmax := by omega
  have hx1 : dmax < 4611686018427387904 := by omega
  have inn : ∀ t : Int, InIv odd lo hi t ↔ dmin ≤ t ∧ t ≤ dmax := fun t => by
    unfold InIv
    rw [← L t, ← H t]
  obtain ⟨t0, h0⟩ := hex
  have h0 := (inn t0).1 h0
  have d1 : IntKind.u64.wrap (dmax.tdiv 10) = dmax / 10 := by
    rw [Int.tdiv_eq_ediv_of_nonneg hx0, IntKind.wrap_u64]
    omega
  have d2 : IntKind.u64.wrap (dmax / 10 * 10) = dmax / 10 * 10 := by
    rw [IntKind.wrap_u64]
    omega
  simp only [d1, d2]
  by_cases c1 : dmax / 10 * 10 < dmin
  · rw [if_pos c1]
    by_cases c2 : dmin < dmax
    · rw [if_pos c2]
      refine ⟨t2, (inn t2).2 ?_, Or.inl ⟨rfl, rfl⟩⟩
      have w1 : InIv odd lo hi dmin := (inn dmin).2 (by omega)
      have w2 : InIv odd lo hi dmax := (inn dmax).2 (by omega)
      have v1 : lo ≤ (dmin : Rat) := by
        have := w1.1
        split at this
        · exact this
        · exact Rat.le_of_lt this
      have v2 : (dmax : Rat) ≤ hi := by
        have := w2.2
        split at this
        · exact this
        · exact Rat.le_of_lt this
      have v3 : (dmin : Rat) + 1 ≤ (dmax : Rat) := by
        have : ((dmin + 1 : Int) : Rat) ≤ (dmax : Rat) := Rat.intCast_le_intCast.2 (by omega)
        rw [Rat.intCast_add] at this
        exact this
      refine ⟨?_, ?_⟩
      · rcases Int.lt_or_le t2 dmin with hlt | hge
        · exfalso
          have k1 : ((t2 + 1 : Int) : Rat) ≤ (dmin : Rat) := Rat.intCast_le_intCast.2 (by omega)
          rw [Rat.intCast_add] at k1
          have k2 : ((1 : Int) : Rat) = 1 := rfl
          rw [k2] at k1
          have k3 : (t2 : Rat) ≤ lo := by
            have : ¬ dmin ≤ t2 := by omega
            rw [L t2] at this
            split at this
            · exact Rat.le_of_lt (Rat.not_le.1 this)
            · exact Rat.not_lt.1 this
          grind
        · exact hge
      · rcases Int.lt_or_le dmax t2 with hlt | hge
        · exfalso
          have k1 : ((dmax + 1 : Int) : Rat) ≤ (t2 : Rat) := Rat.intCast_le_intCast.2 (by omega)
          rw [Rat.intCast_add] at k1
          have k2 : ((1 : Int) : Rat) = 1 := rfl
          rw [k2] at k1
          have k3 : hi ≤ (t2 : Rat) := by
            have : ¬ t2 ≤ dmax := by omega
            rw [H t2] at this
            split at this
            · exact Rat.le_of_lt (Rat.not_le.1 this)
            · exact Rat.not_lt.1 this
          grind
        · exact hge
    · rw [if_neg c2]
      exact ⟨dmin, (inn dmin).2 (by omega), Or.inl ⟨rfl, rfl⟩⟩
  · rw [if_neg c1]
    refine ⟨10 * (dmax / 10), (inn _).2 (by omega), Or.inr ⟨by dsimp only; omega, rfl⟩⟩
end Go.Proofs.YtnggkkdcddpjlaaGreatDoor
namespace Go.Proofs.YtnggkkdcddpjlaaGreatDoor
open Go.RowKit
set_option linter.unusedVariables false
set_option maxRecDepth 100000
theorem two_up (e : Int) : (2 : Rat) ^ (e + 2) = 4 * (2 : Rat) ^ e := by
  rw [Rat.zpow_add (by decide)]
  have : (2 : Rat) ^ (2 : Int) = 4 := by decide
  rw [this, Rat.mul_comm]
theorem unr_fm4 (e q : Int) (n : Nat) (hp0 : -348 ≤ -q) (hp1 : -q ≤ 347) (hn0 : 0 < n) (hn : n < 36028797018963968) (hs0 : e + lpw (-q) + 3 ≤ -5) (hs1 : -63 ≤ e + lpw (-q) + 3) :
    Unr (scl e (-q) ((n * 512 : Nat) : Int)) (4 * (((n * 512 : Nat) : Rat) * (10 : Rat) ^ (-q) * (2 : Rat) ^ e)) := by
  have h := scl_unr_fm e (-q) n hp0 hp1 hn0 hn hs0 hs1
  rw [two_up] at h
  have e1 : 4 * (((n * 512 : Nat) : Rat) * (10 : Rat) ^ (-q) * (2 : Rat) ^ e) = ((n * 512 : Nat) : Rat) * (10 : Rat) ^ (-q) * (4 * (2 : Rat) ^ e) := by grind
  rw [e1]
  exact h
theorem sf_gen (e q odd : Int) (n n1 n2 : Nat) (h1 : 0 < n1) (h2 : n1 < n) (h3 : n < n2) (h4 : n2 < 36028797018963968) (h5 : n - n1 ≤ n2 - n) (h6 : n2 - n ≤ 2 * (n - n1)) (ho : odd = 0 ∨ odd = 1)
    (hp0 : -348 ≤ -q) (hp1 : -q ≤ 347) (hs0 : e + lpw (-q) + 3 ≤ -5) (hs1 : -63 ≤ e + lpw (-q) + 3)
    (hex : ∃ t : Int, InIv odd (((n1 * 512 : Nat) : Rat) * (10 : Rat) ^ (-q) * (2 : Rat) ^ e) (((n2 * 512 : Nat) : Rat) * (10 : Rat) ^ (-q) * (2 : Rat) ^ e) t)
    (hlow : 1 ≤ ((n2 * 512 : Nat) : Rat) * (10 : Rat) ^ (-q) * (2 : Rat) ^ e) (hup : ((n2 * 512 : Nat) : Rat) * (10 : Rat) ^ (-q) * (2 : Rat) ^ e ≤ 144115188075855872) :
    ∃ t : Int, InIv odd (((n1 * 512 : Nat) : Rat) * (10 : Rat) ^ (-q) * (2 : Rat) ^ e) (((n2 * 512 : Nat) : Rat) * (10 : Rat) ^ (-q) * (2 : Rat) ^ e) t ∧
      (((sfTail ((n * 512 : Nat) : Int) e q ((n1 * 512 : Nat) : Int) ((n2 * 512 : Nat) : Int) odd).2 = q ∧ t = (sfTail ((n * 512 : Nat) : Int) e q ((n1 * 512 : Nat) : Int) ((n2 * 512 : Nat) : Int) odd).1) ∨
       ((sfTail ((n * 512 : Nat) : Int) e q ((n1 * 512 : Nat) : Int) ((n2 * 512 : Nat) : Int) odd).2 = q + 1 ∧ t = 10 * (sfTail ((n * 512 : Nat) : Int) e q ((n1 * 512 : Nat) : Int) ((n2 * 512 : Nat) : Int) odd).1)) := by
  have U1 := unr_fm4 e q n1 hp0 hp1 h1 (by omega) hs0 hs1
  have U2 := unr_fm4 e q n hp0 hp1 (by omega) (by omega) hs0 hs1
  have U3 := unr_fm4 e q n2 hp0 hp1 (by omega) h4 hs0 hs1
  have hc : (0 : Rat) < (10 : Rat) ^ (-q) * (2 : Rat) ^ e := Rat.mul_pos (Rat.zpow_pos (by decide)) (Rat.zpow_pos (by decide))
  rw [Rat.mul_assoc] at U1 U2 U3 hex hlow hup ⊢
  rw [Rat.mul_assoc] at hex ⊢
  generalize (10 : Rat) ^ (-q) * (2 : Rat) ^ e = c at *
  have r1 : ((n1 * 512 : Nat) : Rat) < ((n * 512 : Nat) : Rat) := Rat.natCast_lt_natCast.2 (by omega)
  have r2 : ((n * 512 : Nat) : Rat) < ((n2 * 512 : Nat) : Rat) := Rat.natCast_lt_natCast.2 (by omega)
  have r3 : ((n * 512 + n * 512 : Nat) : Rat) ≤ ((n1 * 512 + n2 * 512 : Nat) : Rat) := Rat.natCast_le_natCast.2 (by omega)
  have r4 : ((n2 * 512 + 2 * (n1 * 512) : Nat) : Rat) ≤ ((n * 512 + 2 * (n * 512) : Nat) : Rat) := Rat.natCast_le_natCast.2 (by omega)
  rw [Rat.natCast_add, Rat.natCast_add] at r3
  rw [Rat.natCast_add, Rat.natCast_add, Rat.natCast_mul 2, Rat.natCast_mul 2] at r4
  have e2 : ((2 : Nat) : Rat) = 2 := rfl
  rw [e2] at r4
  have q1 := Rat.mul_lt_mul_of_pos_right r1 hc
  have q2 := Rat.mul_lt_mul_of_pos_right r2 hc
  have q3 := Rat.mul_le_mul_of_nonneg_right r3 (Rat.le_of_lt hc)
  have q4 := Rat.mul_le_mul_of_nonneg_right r4 (Rat.le_of_lt hc)
  have big : ∀ {u : Int} {x : Rat}, Unr u (4 * x) → x ≤ 144115188075855872 → u < 4611686018427387904 := fun {u x} hu hx => by
    have h := (hu 288230376151711744).1.2 (by
      have : ((2 * 288230376151711744 : Int) : Rat) = 4 * 144115188075855872 := by decide +kernel
      rw [this]
      grind)
    omega
  refine sf_in _ e q _ _ odd _ _ _ ho U1 U2 U3 ?_ (big U3 hup) (big U2 (by grind)) (big U1 (by grind)) q1 q2 (by grind) (by grind) hex
  have h := (U3 1).2.2 (by
    have : ((2 * 1 : Int) : Rat) = 2 := by decide
    rw [this]
    grind)
  omega
end Go.Proofs.YtnggkkdcddpjlaaGreatDoor
namespace Go.Proofs.YtnggkkdcddpjlaaGreatDoor
open Go.RowKit
set_option linter.unusedVariables false
set_option maxRecDepth 100000
/-- X rounds to M: half to even. -/
def Rounds (X : Rat) (M : Int) : Prop := if M % 2 = 0 then 2 * (M : Rat) - 1 ≤ 2 * X ∧ 2 * X ≤ 2 * (M : Rat) + 1 else 2 * (M : Rat) - 1 < 2 * X ∧ 2 * X < 2 * (M : Rat) + 1
theorem ev_lo (M : Int) : ((2 * (2 * M - 1) : Int) : Rat) = 4 * (M : Rat) - 2 := by
  have : 2 * (2 * M - 1) = 4 * M - 2 := by omega
  rw [this, Rat.intCast_sub, Rat.intCast_mul]
  rfl
theorem ev_hi (M : Int) : ((2 * (2 * M + 1) : Int) : Rat) = 4 * (M : Rat) + 2 := by
  have : 2 * (2 * M + 1) = 4 * M + 2 := by omega
  rw [this, Rat.intCast_add, Rat.intCast_mul]
  rfl
theorem rnd_to {u M : Int} {X : Rat} (h : Unr u (4 * X)) (hR : Rounds X M) : (u + 1 + u / 4 % 2) / 4 = M := by
  obtain ⟨a1, a2⟩ := h (2 * M - 1)
  obtain ⟨b1, b2⟩ := h (2 * M + 1)
  rw [ev_lo] at a1 a2
  rw [ev_hi] at b1 b2
  unfold Rounds at hR
  by_cases hM : M % 2 = 0
  · rw [if_pos hM] at hR
    have c1 := a2.2 (by grind)
    have c2 := b1.2 (by grind)
    omega
  · rw [if_neg hM] at hR
    have c1 : ¬ u ≤ 2 * (2 * M - 1) := fun hh => by have := a1.1 hh; grind
    have c2 : ¬ 2 * (2 * M + 1) ≤ u := fun hh => by have := b2.1 hh; grind
    omega
theorem unr_half {u : Int} {X : Rat} (h : Unr u (4 * X)) : Unr (if u % 2 = 0 then u / 2 else u / 2 / 2 * 2 + 1) (4 * (X / 2)) := fun d => by
  obtain ⟨a1, a2⟩ := h (2 * d)
  rw [four] at a1 a2
  have e : ((2 * d : Int) : Rat) = 2 * (d : Rat) := by rw [Rat.intCast_mul]; rfl
  rw [e]
  have x1 : 4 * (X / 2) ≤ 2 * (d : Rat) ↔ 4 * X ≤ 4 * (d : Rat) := by constructor <;> intro h <;> grind
  have x2 : 2 * (d : Rat) ≤ 4 * (X / 2) ↔ 4 * (d : Rat) ≤ 4 * X := by constructor <;> intro h <;> grind
  rw [x1, x2, ← a1, ← a2]
  by_cases hu : u % 2 = 0
  · rw [if_pos hu]
    constructor <;> omega
  · rw [if_neg hu]
    constructor <;> omega
/-- Where a scaled value rounds to less than a bound. -/
theorem unr_lt {u : Int} {X : Rat} (h : Unr u (4 * X)) (B : Int) : 4 * B - 2 ≤ u ↔ 2 * (B : Rat) - 1 ≤ 2 * X := by
  obtain ⟨_, a2⟩ := h (2 * B - 1)
  rw [ev_lo] at a2
  have e : 2 * (2 * B - 1) = 4 * B - 2 := by omega
  rw [e] at a2
  rw [a2]
  constructor <;> intro h <;> grind
end Go.Proofs.YtnggkkdcddpjlaaGreatDoor
namespace Go.Proofs.YtnggkkdcddpjlaaGreatDoor
set_option linter.unusedVariables false
set_option maxRecDepth 100000
open Ieee
/-- n stands for X: it is X, or lies to every even number as X does and bits are dropped. -/
def Sits (n drop : Nat) (X : Rat) : Prop := X = (n : Rat) ∨ (Unr n X ∧ 2 ≤ drop)
theorem cut_zero (ng : Bool) (n : Nat) : Toward.cut .even ng n 0 = n := by
  unfold Toward.cut
  have : min 0 (n.log2 + 2) = 0 := by omega
  rw [this]
  simp [Nat.mod_one]
theorem cut_far (ng : Bool) (n drop : Nat) (h : n.log2 + 2 < drop) : Toward.cut .even ng n drop = 0 := by
  unfold Toward.cut
  have : min drop (n.log2 + 2) = n.log2 + 2 := by omega
  rw [this, Nat.one_shiftLeft]
  have h1 : n < 2 ^ (n.log2 + 1) := Nat.lt_log2_self
  have h2 : 2 ^ (n.log2 + 2) = 2 * 2 ^ (n.log2 + 1) := by rw [Nat.pow_succ, Nat.mul_comm]
  have h3 : n / 2 ^ (n.log2 + 2) = 0 := Nat.div_eq_of_lt (by omega)
  have h4 : n % 2 ^ (n.log2 + 2) = n := Nat.mod_eq_of_lt (by omega)
  dsimp only
  rw [h3, h4]
  have h5 : decide (2 ^ (n.log2 + 2) < 2 * n) = false := by simp; omega
  rw [h5]
  simp
theorem cut_at (ng : Bool) (n drop : Nat) (h : drop ≤ n.log2 + 2) (H : Nat) (hH : 2 ^ drop = 2 * H) :
    (2 * (Toward.cut .even ng n drop : Int) - 1) * H ≤ n ∧ (n : Int) ≤ (2 * (Toward.cut .even ng n drop : Int) + 1) * H ∧
    (Toward.cut .even ng n drop % 2 = 1 → (2 * (Toward.cut .even ng n drop : Int) - 1) * H < n ∧ (n : Int) < (2 * (Toward.cut .even ng n drop : Int) + 1) * H) := by
  unfold Toward.cut
  have e : min drop (n.log2 + 2) = drop := by omega
  rw [e, Nat.one_shiftLeft, hH]
  have hp : 0 < 2 ^ drop := Nat.two_pow_pos _
  have h0 : 0 < H := by omega
  have hd := Nat.div_add_mod n (2 * H)
  have hl := Nat.mod_lt n (show 0 < 2 * H by omega)
  dsimp only
  generalize n / (2 * H) = q at *
  generalize n % (2 * H) = r at *
  have hd2 : (n : Int) = 2 * (H : Int) * q + r := by rw [← hd]; simp
  have key : ∀ b : Bool, (b = true → H ≤ r) → (b = false → r ≤ H) → ((q + b.toNat) % 2 = 1 → (b = true → H < r) ∧ (b = false → r < H)) →
      (2 * ((q + b.toNat : Nat) : Int) - 1) * H ≤ n ∧ (n : Int) ≤ (2 * ((q + b.toNat : Nat) : Int) + 1) * H ∧
      ((q + b.toNat) % 2 = 1 → (2 * ((q + b.toNat : Nat) : Int) - 1) * H < n ∧ (n : Int) < (2 * ((q + b.toNat : Nat) : Int) + 1) * H) := by
    intro b k1 k2 k3
    have eq1 : 2 * (H : Int) * q = 2 * (q * H) := by rw [Int.mul_assoc, Int.mul_comm (H : Int)]
    rw [eq1] at hd2
    generalize hz : (q : Int) * H = z at *
    cases b with
    | false =>
      have k2 := k2 rfl
      simp only [Bool.toNat_false, Nat.add_zero] at *
      have e1 : (2 * (q : Int) - 1) * H = 2 * z - H := by rw [Int.sub_mul, Int.mul_assoc, hz]; omega
      have e2 : (2 * (q : Int) + 1) * H = 2 * z + H := by rw [Int.add_mul, Int.mul_assoc, hz]; omega
      rw [e1, e2]
      refine ⟨by omega, by omega, fun hh => ?_⟩
      have := (k3 hh).2 trivial
      omega
    | true =>
      have k1 := k1 rfl
      simp only [Bool.toNat_true] at *
      have e1 : (2 * ((q + 1 : Nat) : Int) - 1) * H = 2 * z + H := by
        have : 2 * ((q + 1 : Nat) : Int) - 1 = 2 * (q : Int) + 1 := by omega
        rw [this, Int.add_mul, Int.mul_assoc, hz]; omega
      have e2 : (2 * ((q + 1 : Nat) : Int) + 1) * H = 2 * z + 3 * H := by
        have : 2 * ((q + 1 : Nat) : Int) + 1 = 2 * (q : Int) + 3 := by omega
        rw [this, Int.add_mul, Int.mul_assoc, hz]
      rw [e1, e2]
      refine ⟨by omega, by omega, fun hh => ?_⟩
      have := (k3 hh).1 trivial
      omega
  refine key _ ?_ ?_ ?_
  · intro hb
    simp at hb
    omega
  · intro hb
    simp at hb
    omega
  · intro hh
    constructor
    · intro hb
      rw [hb] at hh
      simp at hb hh
      omega
    · intro hb
      rw [hb] at hh
      simp at hb hh
      omega
theorem pow_rat (b : Nat) (n : Nat) : ((b ^ n : Nat) : Rat) = (b : Rat) ^ n := Rat.natCast_pow b n
/-- A cut rounds to the nearest. -/
theorem cut_rounds (ng : Bool) (n drop : Nat) (X : Rat) (h : Sits n drop X) : Rounds (X / (2 : Rat) ^ drop) (Toward.cut .even ng n drop : Nat) := by
  have hp : (0 : Rat) < (2 : Rat) ^ drop := Rat.pow_pos (by decide)
  have hp0 : (2 : Rat) ^ drop ≠ 0 := by grind
  have le1 : ∀ a : Rat, a ≤ X / (2 : Rat) ^ drop ↔ a * (2 : Rat) ^ drop ≤ X := fun a => by
    have e : X / (2 : Rat) ^ drop * (2 : Rat) ^ drop = X := Rat.div_mul_cancel hp0
    constructor
    · intro hh
      have := Rat.mul_le_mul_of_nonneg_right hh (Rat.le_of_lt hp)
      rw [e] at this
      exact this
    · intro hh
      rw [← e] at hh
      exact Rat.le_of_mul_le_mul_right hh hp
  have le2 : ∀ a : Rat, X / (2 : Rat) ^ drop ≤ a ↔ X ≤ a * (2 : Rat) ^ drop := fun a => by
    have e : X / (2 : Rat) ^ drop * (2 : Rat) ^ drop = X := Rat.div_mul_cancel hp0
    constructor
    · intro hh
      have := Rat.mul_le_mul_of_nonneg_right hh (Rat.le_of_lt hp)
      rw [e] at this
      exact this
    · intro hh
      rw [← e] at hh
      exact Rat.le_of_mul_le_mul_right hh hp
  by_cases hd0 : drop = 0
  · subst hd0
    rw [cut_zero]
    rcases h with h | ⟨_, h⟩
    · subst h
      have e : (n : Rat) / (2 : Rat) ^ 0 = (((n : Nat) : Int) : Rat) := by
        rw [Rat.intCast_natCast]
        have : (2 : Rat) ^ 0 = 1 := rfl
        rw [this]
        grind
      rw [e]
      unfold Rounds
      split <;> constructor <;> grind
    · omega
  obtain ⟨H, hH⟩ : ∃ H, 2 ^ drop = 2 * H := ⟨2 ^ (drop - 1), by
    have : drop = drop - 1 + 1 := by omega
    rw [this, Nat.pow_succ, Nat.mul_comm]
    congr 1⟩
  have hHr : (2 : Rat) ^ drop = 2 * (H : Rat) := by
    have := congrArg (fun x : Nat => (x : Rat)) hH
    simp only [pow_rat] at this
    rw [Rat.natCast_mul] at this
    exact this
  -- an odd multiple of the half gap
  have cmp : ∀ c : Int, ((n : Int) ≤ c * H ↔ X ≤ (c : Rat) * (H : Rat)) ∧ (c * H ≤ (n : Int) ↔ (c : Rat) * (H : Rat) ≤ X) := fun c => by
    have ec : (c : Rat) * (H : Rat) = ((c * H : Int) : Rat) := by rw [Rat.intCast_mul, Rat.intCast_natCast]
    rw [ec]
    rcases h with h | ⟨h, h2⟩
    · subst h
      have e : ((n : Nat) : Rat) = (((n : Nat) : Int) : Rat) := (Rat.intCast_natCast n).symm
      rw [e]
      exact ⟨Rat.intCast_le_intCast.symm, Rat.intCast_le_intCast.symm⟩
    · obtain ⟨H2, hH2⟩ : ∃ H2 : Nat, H = 2 * H2 := ⟨2 ^ (drop - 2), by
        have e1 : drop = drop - 2 + 1 + 1 := by omega
        have e2 : 2 ^ drop = 2 * (2 * 2 ^ (drop - 2)) := by
          have : 2 ^ (drop - 2 + 1 + 1) = 2 * (2 * 2 ^ (drop - 2)) := by rw [Nat.pow_succ, Nat.pow_succ]; omega
          rw [← this, ← e1]
        omega⟩
      have e : c * H = 2 * (c * H2) := by
        rw [hH2, Int.natCast_mul]
        have : ((2 : Nat) : Int) = 2 := rfl
        rw [this, ← Int.mul_assoc, Int.mul_comm c 2, Int.mul_assoc]
      rw [e]
      exact h (c * H2)
  by_cases hf : n.log2 + 2 < drop
  · rw [cut_far ng n drop hf]
    unfold Rounds
    rw [if_pos (by decide)]
    have h1 := (cmp (-1)).2.1 (by omega)
    have hn : n < H := by
      have h1 : n < 2 ^ (n.log2 + 1) := Nat.lt_log2_self
      have h2 : 2 ^ (n.log2 + 2) ≤ 2 ^ drop := Nat.pow_le_pow_right (by omega) (by omega)
      have h3 : 2 ^ (n.log2 + 2) = 2 * 2 ^ (n.log2 + 1) := by rw [Nat.pow_succ, Nat.mul_comm]
      omega
    have h2 := (cmp 1).1.1 (by omega)
    have g1 := (le1 (-1 / 2)).2 (by rw [hHr]; have : ((-1 : Int) : Rat) = -1 := rfl; rw [this] at h1; grind)
    have g2 := (le2 (1 / 2)).2 (by rw [hHr]; have : ((1 : Int) : Rat) = 1 := rfl; rw [this] at h2; grind)
    have e0 : (((0 : Nat) : Int) : Rat) = 0 := rfl
    rw [e0]
    constructor <;> grind
  · obtain ⟨a1, a2, a3⟩ := cut_at ng n drop (by omega) H hH
    generalize Toward.cut .even ng n drop = K at *
    have b1 := (cmp (2 * K - 1)).2.1 a1
    have b2 := (cmp (2 * K + 1)).1.1 a2
    have f1 : ((2 * (K : Int) - 1 : Int) : Rat) = 2 * ((K : Int) : Rat) - 1 := by rw [Rat.intCast_sub, Rat.intCast_mul]; rfl
    have f2 : ((2 * (K : Int) + 1 : Int) : Rat) = 2 * ((K : Int) : Rat) + 1 := by rw [Rat.intCast_add, Rat.intCast_mul]; rfl
    rw [f1] at b1
    rw [f2] at b2
    have g1 := (le1 ((2 * ((K : Int) : Rat) - 1) / 2)).2 (by rw [hHr]; grind)
    have g2 := (le2 ((2 * ((K : Int) : Rat) + 1) / 2)).2 (by rw [hHr]; grind)
    unfold Rounds
    split
    · constructor <;> grind
    · obtain ⟨c1, c2⟩ := a3 (by omega)
      have n1 : ¬ X ≤ (2 * ((K : Int) : Rat) - 1) * (H : Rat) := fun hh => by
        rw [← f1] at hh
        have := (cmp (2 * K - 1)).1.2 hh
        omega
      have n2 : ¬ (2 * ((K : Int) : Rat) + 1) * (H : Rat) ≤ X := fun hh => by
        rw [← f2] at hh
        have := (cmp (2 * K + 1)).2.2 hh
        omega
      have m1 : ¬ X / (2 : Rat) ^ drop ≤ (2 * ((K : Int) : Rat) - 1) / 2 := fun hh => n1 (by have := (le2 _).1 hh; rw [hHr] at this; grind)
      have m2 : ¬ (2 * ((K : Int) : Rat) + 1) / 2 ≤ X / (2 : Rat) ^ drop := fun hh => n2 (by have := (le1 _).1 hh; rw [hHr] at this; grind)
      constructor <;> grind
theorem rounds_uniq {X : Rat} {a b : Int} (ha : Rounds X a) (hb : Rounds X b) : a = b := by
  have lo : ∀ {a b : Int}, Rounds X a → Rounds X b → a ≤ b := fun {a b} ha hb => by
    rcases (by omega : a ≤ b ∨ a = b + 1 ∨ b + 2 ≤ a) with h | h | h
    · exact h
    · exfalso
      have e : (a : Rat) = (b : Rat) + 1 := by rw [h, Rat.intCast_add]; rfl
      unfold Rounds at ha hb
      rcases (by omega : (a % 2 = 0 ∧ ¬ b % 2 = 0) ∨ (¬ a % 2 = 0 ∧ b % 2 = 0)) with ⟨p, q⟩ | ⟨p, q⟩
      · rw [if_pos p] at ha
        rw [if_neg q] at hb
        grind
      · rw [if_neg p] at ha
        rw [if_pos q] at hb
        grind
    · exfalso
      have e : ((b + 2 : Int) : Rat) ≤ (a : Rat) := Rat.intCast_le_intCast.2 h
      rw [Rat.intCast_add] at e
      have e2 : ((2 : Int) : Rat) = 2 := rfl
      rw [e2] at e
      unfold Rounds at ha hb
      split at ha <;> split at hb <;> grind
  exact Int.le_antisymm (lo ha hb) (lo hb ha)
theorem two_add (a b : Int) : (2 : Rat) ^ (a + b) = (2 : Rat) ^ a * (2 : Rat) ^ b := Rat.zpow_add (by decide) a b
theorem two_gt (j : Int) : (0 : Rat) < (2 : Rat) ^ j := Rat.zpow_pos (by decide)
theorem two_mono (j k : Int) (h : k ≤ j) : (2 : Rat) ^ k ≤ (2 : Rat) ^ j := by
  obtain ⟨n, hn⟩ : ∃ n : Nat, j = n + k := ⟨(j - k).toNat, by omega⟩
  have h1 : (1 : Rat) ≤ (2 : Rat) ^ ((n : Nat) : Int) := by
    rw [Rat.zpow_natCast]
    clear hn
    induction n with
    | zero => simp
    | succ n ih => rw [Rat.pow_succ]; grind
  rw [hn, two_add]
  have := Rat.mul_le_mul_of_nonneg_right h1 (Rat.le_of_lt (two_gt k))
  grind
theorem two_cast (n : Nat) : ((2 ^ n : Nat) : Rat) = (2 : Rat) ^ (n : Int) := by rw [pow_rat, Rat.zpow_natCast]; rfl
/-- mag stands for X, which lies within its binade as mag does. -/
def Stands (F mag : Nat) (X : Rat) : Prop := X = (mag : Rat) ∨ (Unr mag X ∧ F + 2 ≤ mag.log2)
theorem stands_in {F mag : Nat} {X : Rat} (h : Stands F mag X) (h0 : mag ≠ 0) : (2 : Rat) ^ (mag.log2 : Int) ≤ X ∧ X < (2 : Rat) ^ ((mag.log2 : Int) + 1) := by
  have a1 : 2 ^ mag.log2 ≤ mag := Nat.log2_self_le h0
  have a2 : mag < 2 ^ (mag.log2 + 1) := Nat.lt_log2_self
  have e1 : (2 : Rat) ^ (mag.log2 : Int) = ((2 ^ mag.log2 : Nat) : Rat) := (two_cast _).symm
  have e2 : (2 : Rat) ^ ((mag.log2 : Int) + 1) = ((2 ^ (mag.log2 + 1) : Nat) : Rat) := (two_cast _).symm
  rw [e1, e2]
  rcases h with h | ⟨h, h2⟩
  · rw [h]
    exact ⟨Rat.natCast_le_natCast.2 a1, Rat.natCast_lt_natCast.2 a2⟩
  · have p1 : 2 ^ mag.log2 = 2 * 2 ^ (mag.log2 - 1) := by
      have : mag.log2 = mag.log2 - 1 + 1 := by omega
      rw [this, Nat.pow_succ, Nat.mul_comm]
      congr 1
    have p2 : 2 ^ (mag.log2 + 1) = 2 * 2 ^ mag.log2 := by rw [Nat.pow_succ, Nat.mul_comm]
    have c1 := (h ((2 ^ (mag.log2 - 1) : Nat) : Int)).2.1 (by omega)
    have c2 : ¬ ((2 * ((2 ^ mag.log2 : Nat) : Int) : Int) : Rat) ≤ X := fun hh => by
      have := (h ((2 ^ mag.log2 : Nat) : Int)).2.2 hh
      omega
    have d1 : ((2 * ((2 ^ (mag.log2 - 1) : Nat) : Int) : Int) : Rat) = ((2 ^ mag.log2 : Nat) : Rat) := by
      rw [p1, ← Rat.intCast_natCast]
      congr 1
    have d2 : ((2 * ((2 ^ mag.log2 : Nat) : Int) : Int) : Rat) = ((2 ^ (mag.log2 + 1) : Nat) : Rat) := by
      rw [p2, ← Rat.intCast_natCast]
      congr 1
    rw [d1] at c1
    rw [d2] at c2
    exact ⟨c1, Rat.not_le.1 c2⟩
/-- Where the rounding of a value is told against one scale, the rung is. -/
theorem near_rung (f : Format) (ng : Bool) (mag : Nat) (place : Int) (X : Rat) (B : Nat) (M k L : Int) (h0 : mag ≠ 0) (hX : Stands f.fractionBits mag X) (hB : f.binade = B) (hL : f.leastPlace = L) (hB4 : 4 ≤ B)
    (hM0 : 0 ≤ M) (hM1 : M < 2 * B) (hk : L ≤ k) (hn : (B : Int) ≤ M ∨ k = L) (hR : Rounds (X * (2 : Rat) ^ (place - k)) M) (hl : M = B → L < k → 4 * (M : Rat) - 1 ≤ 4 * (X * (2 : Rat) ^ (place - k))) :
    f.nearest ng mag place = f.word ng (min ((k - L).toNat * B + M.toNat) f.infRung) := by
  obtain ⟨x1, x2⟩ := stands_in hX h0
  unfold Format.nearest
  rw [if_neg h0, hL]
  dsimp only
  obtain ⟨last, hlast⟩ : ∃ last, last = max (place + (mag.log2 : Int) - (f.fractionBits : Int)) L := ⟨_, rfl⟩
  rw [← hlast, hB]
  have hBr : (2 : Rat) ^ (f.fractionBits : Int) = (B : Rat) := by rw [← hB]; exact (two_cast _).symm
  obtain ⟨Z, hZ⟩ : ∃ Z, Z = X * (2 : Rat) ^ (place - last) := ⟨_, rfl⟩
  -- what is kept
  have hkept : Rounds Z (Toward.even.cut ng (mag <<< (place - last).toNat) (last - place).toNat : Nat) := by
    rcases (by omega : last ≤ place ∨ place < last) with h | h
    · have e1 : (last - place).toNat = 0 := by omega
      rw [e1, cut_zero]
      obtain ⟨a, ha⟩ : ∃ a, a = (place - last).toNat := ⟨_, rfl⟩
      have hXe : X = (mag : Rat) := by
        rcases hX with hX | ⟨_, hX⟩
        · exact hX
        · omega
      have e2 : Z = (((mag <<< a : Nat) : Int) : Rat) := by
        have : place - last = (a : Int) := by omega
        rw [hZ, this, hXe, Nat.shiftLeft_eq, Rat.intCast_natCast, Rat.natCast_mul, two_cast]
      rw [← ha, e2]
      unfold Rounds
      split <;> constructor <;> grind
    · have e1 : (place - last).toNat = 0 := by omega
      obtain ⟨a, ha⟩ : ∃ a, a = (last - place).toNat := ⟨_, rfl⟩
      have e2 : Z = X / (2 : Rat) ^ a := by
        have : place - last = -(a : Int) := by omega
        rw [hZ, this, Rat.zpow_neg, Rat.zpow_natCast, Rat.div_def]
      rw [e1, ← ha, Nat.shiftLeft_zero, e2]
      refine cut_rounds ng mag a X ?_
      rcases hX with hX | ⟨hX, h2⟩
      · exact Or.inl hX
      · exact Or.inr ⟨hX, by omega⟩
  generalize Toward.even.cut ng (mag <<< (place - last).toNat) (last - place).toNat = K at hkept ⊢
  -- where Z lies
  have z2 : Z < 2 * (B : Rat) := by
    have p := two_gt (place - last)
    have h1 := Rat.mul_lt_mul_of_pos_right x2 p
    rw [← two_add] at h1
    have h2 := two_mono ((f.fractionBits : Int) + 1) ((mag.log2 : Int) + 1 + (place - last)) (by omega)
    have h3 : (2 : Rat) ^ ((f.fractionBits : Int) + 1) = 2 * (B : Rat) := by
      rw [two_add, hBr]
      have : (2 : Rat) ^ (1 : Int) = 2 := by decide
      rw [this, Rat.mul_comm]
    rw [h3] at h2
    rw [hZ]
    generalize X * (2 : Rat) ^ (place - last) = z at h1 ⊢
    grind
  have z1 : last = L ∨ (B : Rat) ≤ Z := by
    rcases (by omega : last = L ∨ last = place + (mag.log2 : Int) - (f.fractionBits : Int)) with h | h
    · exact Or.inl h
    · right
      have p := two_gt (place - last)
      have h1 := Rat.mul_le_mul_of_nonneg_right x1 (Rat.le_of_lt p)
      rw [← two_add] at h1
      have h2 : (mag.log2 : Int) + (place - last) = (f.fractionBits : Int) := by omega
      rw [h2, hBr] at h1
      rw [hZ]
      exact h1
  obtain ⟨Y, hY⟩ : ∃ Y, Y = X * (2 : Rat) ^ (place - k) := ⟨_, rfl⟩
  rw [← hY] at hR hl
  have hYZ : Y = Z * (2 : Rat) ^ (last - k) := by
    rw [hY, hZ, Rat.mul_assoc, ← two_add]
    congr 2
    omega
  have hx0 : 0 < X := by have := two_gt (mag.log2 : Int); grind
  have hz0 : 0 < Z := by rw [hZ]; exact Rat.mul_pos hx0 (two_gt _)
  have mono : ∀ a b : Rat, a ≤ b → Z * a ≤ Z * b := fun a b h => Rat.mul_le_mul_of_nonneg_left h (Rat.le_of_lt hz0)
  have lo : 2 * (M : Rat) - 1 ≤ 2 * Y := by
    unfold Rounds at hR
    split at hR
    · exact hR.1
    · exact Rat.le_of_lt hR.1
  have hi : 2 * Y ≤ 2 * (M : Rat) + 1 := by
    unfold Rounds at hR
    split at hR
    · exact hR.2
    · exact Rat.le_of_lt hR.2
  have m2 : (M : Rat) + 1 ≤ 2 * (B : Rat) := by
    have : ((M + 1 : Int) : Rat) ≤ ((2 * (B : Int) : Int) : Rat) := Rat.intCast_le_intCast.2 (by omega)
    rw [Rat.intCast_add, Rat.intCast_mul, Rat.intCast_natCast] at this
    exact this
  have b4 : (4 : Rat) ≤ (B : Rat) := by
    have : ((4 : Nat) : Rat) ≤ (B : Rat) := Rat.natCast_le_natCast.2 hB4
    exact this
  have e1 : (2 : Rat) ^ (1 : Int) = 2 := by decide
  have em : (2 : Rat) ^ (-1 : Int) = 1 / 2 := by decide +kernel
  have em2 : (2 : Rat) ^ (-2 : Int) = 1 / 4 := by decide +kernel
  have e0 : (2 : Rat) ^ (0 : Int) = 1 := by decide
  rcases (by omega : last = k ∨ k < last ∨ last < k) with h | h | h
  · have hj : last - k = 0 := by omega
    rw [hj, e0] at hYZ
    have : Y = Z := by grind
    rw [this] at hR
    have hK := rounds_uniq hkept hR
    have e : (last - L).toNat = (k - L).toNat := by omega
    have e' : K = M.toNat := by omega
    rw [e, e']
  · exfalso
    have hZB : (B : Rat) ≤ Z := by
      rcases z1 with z1 | z1
      · omega
      · exact z1
    have h1 := mono _ _ (two_mono (last - k) 1 (by omega))
    rw [← hYZ, e1] at h1
    grind
  · have hMB : (B : Int) ≤ M := by omega
    have hMB' : (B : Rat) ≤ (M : Rat) := by
      have := Rat.intCast_le_intCast.2 hMB
      rw [Rat.intCast_natCast] at this
      exact this
    have h1 := mono _ _ (two_mono (-1) (last - k) (by omega))
    rw [← hYZ, em] at h1
    have hMle : M ≤ B := by
      refine Decidable.byContradiction fun hc => ?_
      have : (((B : Nat) : Int) + 1 : Int) ≤ M := by omega
      have := Rat.intCast_le_intCast.2 this
      rw [Rat.intCast_add, Rat.intCast_natCast] at this
      have e : ((1 : Int) : Rat) = 1 := rfl
      rw [e] at this
      grind
    have hMe : M = B := by omega
    have hl := hl hMe (by omega)
    have hMr : (M : Rat) = (B : Rat) := by rw [hMe, Rat.intCast_natCast]
    have hj : last - k = -1 := by
      rcases (by omega : last - k = -1 ∨ last - k ≤ -2) with h | h
      · exact h
      · exfalso
        have h1 := mono _ _ (two_mono (-2) (last - k) (by omega))
        rw [← hYZ, em2] at h1
        grind
    rw [hj, em] at hYZ
    have hR2 : Rounds Z (2 * B : Int) := by
      unfold Rounds
      rw [if_pos (by omega)]
      have : ((2 * (B : Int) : Int) : Rat) = 2 * (B : Rat) := by rw [Rat.intCast_mul, Rat.intCast_natCast]; rfl
      rw [this]
      constructor <;> grind
    have hK := rounds_uniq hkept hR2
    have e' : K = 2 * B := by omega
    have e'' : M.toNat = B := by omega
    have e : (k - L).toNat = (last - L).toNat + 1 := by omega
    rw [e, e', e'', Nat.add_mul]
    congr 2
    omega
end Go.Proofs.YtnggkkdcddpjlaaGreatDoor
