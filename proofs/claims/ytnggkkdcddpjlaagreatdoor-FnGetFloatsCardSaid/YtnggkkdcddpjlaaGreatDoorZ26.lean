/- Reading: where the scaled value lies tells the float's exponent. Powers of two between powers of ten, for every exponent that shortFloat meets. A float's rounding interval, scaled, holds a whole number; what lies in it rounds to the mantissa. shortFloat at a float whose neighbours are evenly far: its digits round back to the mantissa. shortFloat at a power of two, whose lower neighbour is nearer. parseFloat's scaled value: exact, and within the bounds of the mantissas. parseFloat64's word: what is handed to pack64 is the mantissa and the exponent of the float whose interval the text lies in. shortFloat's digits, as a value that rounds back to the float. shortFloat[float64] at a normal float: its digits round back. shortFloat[float64] at a subnormal float: its digits round back. -/
import Derived.Test.YtnggkkdcddpjlaaGreatDoorZ14
namespace Go.Proofs.YtnggkkdcddpjlaaGreatDoor
open Go.RowKit
set_option linter.unusedVariables false
set_option maxRecDepth 100000
theorem two_pos (j : Int) : (0 : Rat) < (2 : Rat) ^ j := Rat.zpow_pos (by decide)
theorem two_nat (n : Nat) : 1 ≤ (2 : Rat) ^ ((n : Nat) : Int) := by
  rw [Rat.zpow_natCast]
  induction n with
  | zero => simp
  | succ n ih => rw [Rat.pow_succ]; grind
theorem two_ge (j k : Int) (h : k ≤ j) : (2 : Rat) ^ k ≤ (2 : Rat) ^ j := by
  obtain ⟨n, hn⟩ : ∃ n : Nat, j = n + k := ⟨(j - k).toNat, by omega⟩
  rw [hn, Rat.zpow_add (by decide)]
  have h1 := two_nat n
  have h2 := two_pos k
  have := Rat.mul_le_mul_of_nonneg_right h1 (Rat.le_of_lt h2)
  grind
theorem rounds_lo {Y : Rat} {M : Int} (h : Rounds Y M) : 2 * (M : Rat) - 1 ≤ 2 * Y := by
  unfold Rounds at h
  split at h
  · exact h.1
  · exact Rat.le_of_lt h.1
theorem rounds_hi {Y : Rat} {M : Int} (h : Rounds Y M) : 2 * Y ≤ 2 * (M : Rat) + 1 := by
  unfold Rounds at h
  split at h
  · exact h.2
  · exact Rat.le_of_lt h.2
/-- Y = V/2^k rounds to the mantissa M; X = V*2^e is what the reader scales to. -/
theorem parse_pos (X Y : Rat) (M k e : Int) (hM0 : 0 < M) (hM1 : M < 9007199254740992) (hk : -1074 ≤ k) (hn : 4503599627370496 ≤ M ∨ k = -1074) (he : e ≤ 1074)
    (hXY : X = Y * (2 : Rat) ^ (k + e)) (hR : Rounds Y M) (hq : M = 4503599627370496 → -1074 < k → 4 * (M : Rat) - 1 ≤ 4 * Y)
    (hX : e = 1074 ∨ 4503599627370496 ≤ X) (hX2 : X ≤ 18014398509481984 - 2) (hX3 : X ≠ 18014398509481984 - 2) :
    (18014398509481983 ≤ 2 * X → k = 1 - e ∧ X / 2 = Y) ∧ (¬ 18014398509481983 ≤ 2 * X → k = -e ∧ X = Y) := by
  have lo := rounds_lo hR
  have hi := rounds_hi hR
  have m1 : (1 : Rat) ≤ (M : Rat) := by
    have : ((1 : Int) : Rat) ≤ (M : Rat) := Rat.intCast_le_intCast.2 (by omega)
    exact this
  have m2 : (M : Rat) ≤ 9007199254740991 := by
    have : (M : Rat) ≤ ((9007199254740991 : Int) : Rat) := Rat.intCast_le_intCast.2 (by omega)
    exact this
  have y0 : 0 ≤ Y := by grind
  have big : -1074 < k → (18014398509481984 : Rat) - 2 ≤ 4 * Y ∧ 18014398509481983 ≤ 4 * Y := fun hk1 => by
    rcases (by omega : M = 4503599627370496 ∨ 4503599627370497 ≤ M) with h | h
    · have h2 := hq h hk1
      have : (M : Rat) = 4503599627370496 := by rw [h]; rfl
      rw [this] at h2
      constructor <;> grind
    · have : ((4503599627370497 : Int) : Rat) ≤ (M : Rat) := Rat.intCast_le_intCast.2 h
      have e1 : ((4503599627370497 : Int) : Rat) = 4503599627370497 := rfl
      rw [e1] at this
      constructor <;> grind
  have e0 : (2 : Rat) ^ (0 : Int) = 1 := by decide
  have e1 : (2 : Rat) ^ (1 : Int) = 2 := by decide
  have e2 : (2 : Rat) ^ (2 : Int) = 4 := by decide
  have em : (2 : Rat) ^ (-1 : Int) = 1 / 2 := by decide +kernel
  have mono : ∀ a b : Rat, a ≤ b → Y * a ≤ Y * b := fun a b h => Rat.mul_le_mul_of_nonneg_left h y0
  refine ⟨fun hc => ?_, fun hc => ?_⟩
  · have hj : k + e = 1 := by
      rcases (by omega : k + e = 1 ∨ 2 ≤ k + e ∨ k + e ≤ 0) with h | h | h
      · exact h
      · exfalso
        have h1 := mono _ _ (two_ge (k + e) 2 h)
        rw [e2, ← hXY] at h1
        have h2 := big (by omega)
        grind
      · exfalso
        have h1 := mono _ _ (two_ge 0 (k + e) h)
        rw [e0, ← hXY] at h1
        have h3 : (M : Rat) = 9007199254740991 := by grind
        have h4 : (9007199254740991 : Int) ≤ M := Rat.intCast_le_intCast.1 (show (9007199254740991 : Rat) ≤ (M : Rat) by grind)
        have h5 : ¬ M % 2 = 0 := by omega
        unfold Rounds at hR
        rw [if_neg h5] at hR
        grind
    refine ⟨by omega, ?_⟩
    rw [hXY, hj, e1]
    grind
  · have hj : k + e = 0 := by
      rcases (by omega : k + e = 0 ∨ 1 ≤ k + e ∨ k + e ≤ -1) with h | h | h
      · exact h
      · exfalso
        have h1 := mono _ _ (two_ge (k + e) 1 h)
        rw [e1, ← hXY] at h1
        have h2 := big (by omega)
        grind
      · exfalso
        have h1 := mono _ _ (two_ge (-1) (k + e) h)
        rw [em, ← hXY] at h1
        rcases hX with hX | hX
        · omega
        · grind
    refine ⟨by omega, ?_⟩
    rw [hXY, hj, e0]
    grind
end Go.Proofs.YtnggkkdcddpjlaaGreatDoor
namespace Go.Proofs.YtnggkkdcddpjlaaGreatDoor
open Go.RowKit
set_option linter.unusedVariables false
set_option maxRecDepth 100000
/-- c*10^q <= a*2^x, c*10^q < a*2^x, a*2^x < c*10^q: in whole numbers. -/
def leB (c : Nat) (q : Int) (a : Nat) (x : Int) : Bool := decide (c * 10 ^ q.toNat * 2 ^ (-x).toNat ≤ a * 2 ^ x.toNat * 10 ^ (-q).toNat)
def ltB (c : Nat) (q : Int) (a : Nat) (x : Int) : Bool := decide (c * 10 ^ q.toNat * 2 ^ (-x).toNat < a * 2 ^ x.toNat * 10 ^ (-q).toNat)
def gtB (c : Nat) (q : Int) (a : Nat) (x : Int) : Bool := decide (a * 2 ^ x.toNat * 10 ^ (-q).toNat < c * 10 ^ q.toNat * 2 ^ (-x).toNat)
theorem cast_pow (b n : Nat) : ((b ^ n : Nat) : Rat) = (b : Rat) ^ n := Rat.natCast_pow b n
theorem le_rat {q x : Int} {a c : Nat} (h : leB c q a x = true) : (c : Rat) * (10 : Rat) ^ q ≤ (a : Rat) * (2 : Rat) ^ x := by
  have h := of_decide_eq_true h
  have h2 := Rat.natCast_le_natCast.2 h
  rw [Rat.natCast_mul, Rat.natCast_mul, Rat.natCast_mul, Rat.natCast_mul, cast_pow, cast_pow, cast_pow, cast_pow] at h2
  have e10 : ((10 : Nat) : Rat) = 10 := rfl
  have e2 : ((2 : Nat) : Rat) = 2 := rfl
  rw [e10, e2, ← zsplit 10 (by decide) q, ← zsplit 2 (by decide) x] at h2
  have p1 : (0 : Rat) < (10 : Rat) ^ (-q).toNat := Rat.pow_pos (by decide)
  have p2 : (0 : Rat) < (2 : Rat) ^ (-x).toNat := Rat.pow_pos (by decide)
  have p3 := Rat.mul_pos p1 p2
  refine Rat.le_of_mul_le_mul_right ?_ p3
  grind
theorem lt_rat {q x : Int} {a c : Nat} (h : ltB c q a x = true) : (c : Rat) * (10 : Rat) ^ q < (a : Rat) * (2 : Rat) ^ x := by
  have h := of_decide_eq_true h
  have h2 := Rat.natCast_lt_natCast.2 h
  rw [Rat.natCast_mul, Rat.natCast_mul, Rat.natCast_mul, Rat.natCast_mul, cast_pow, cast_pow, cast_pow, cast_pow] at h2
  have e10 : ((10 : Nat) : Rat) = 10 := rfl
  have e2 : ((2 : Nat) : Rat) = 2 := rfl
  rw [e10, e2, ← zsplit 10 (by decide) q, ← zsplit 2 (by decide) x] at h2
  have p1 : (0 : Rat) < (10 : Rat) ^ (-q).toNat := Rat.pow_pos (by decide)
  have p2 : (0 : Rat) < (2 : Rat) ^ (-x).toNat := Rat.pow_pos (by decide)
  have p3 := Rat.mul_pos p1 p2
  refine Rat.lt_of_mul_lt_mul_right ?_ (Rat.le_of_lt p3)
  grind
theorem gt_rat {q x : Int} {a c : Nat} (h : gtB c q a x = true) : (a : Rat) * (2 : Rat) ^ x < (c : Rat) * (10 : Rat) ^ q := by
  have h := of_decide_eq_true h
  have h2 := Rat.natCast_lt_natCast.2 h
  rw [Rat.natCast_mul, Rat.natCast_mul, Rat.natCast_mul, Rat.natCast_mul, cast_pow, cast_pow, cast_pow, cast_pow] at h2
  have e10 : ((10 : Nat) : Rat) = 10 := rfl
  have e2 : ((2 : Nat) : Rat) = 2 := rfl
  rw [e10, e2, ← zsplit 10 (by decide) q, ← zsplit 2 (by decide) x] at h2
  have p1 : (0 : Rat) < (10 : Rat) ^ (-q).toNat := Rat.pow_pos (by decide)
  have p2 : (0 : Rat) < (2 : Rat) ^ (-x).toNat := Rat.pow_pos (by decide)
  have p3 := Rat.mul_pos p1 p2
  refine Rat.lt_of_mul_lt_mul_right ?_ (Rat.le_of_lt p3)
  grind
def qOf (x : Int) : Int := x * 78913 / 262144
def qSk (x : Int) : Int := (x * 631305 - 261663) / 2097152
def tenB (x : Int) : Bool := leB 1 (qOf x) 1 x && gtB 1 (qOf x + 1) 1 x && decide (x - 11 + lpw (-qOf x) + 3 ≤ -5) && decide (-63 ≤ x - 11 + lpw (-qOf x) + 3)
/-- The skewed ones: 10^q < 3/4*2^x < 10^(q+1). -/
def skB (x : Int) : Bool := ltB 4 (qSk x) 3 x && gtB 4 (qSk x + 1) 3 x && decide (x - 11 + lpw (-qSk x) + 3 ≤ -5) && decide (-63 ≤ x - 11 + lpw (-qSk x) + 3)
def fromB (f : Int → Bool) : Nat → Int → Bool
  | 0, _ => true
  | n + 1, x => f x && fromB f n (x + 1)
theorem fromB_at (f : Int → Bool) : ∀ (n : Nat) (x : Int), fromB f n x = true → ∀ y, x ≤ y → y < x + n → f y = true
  | 0, x, h, y, h1, h2 => by omega
  | n + 1, x, h, y, h1, h2 => by
    unfold fromB at h
    rw [Bool.and_eq_true] at h
    rcases (by omega : y = x ∨ x + 1 ≤ y) with e | e
    · rw [e]; exact h.1
    · exact fromB_at f n (x + 1) h.2 y e (by omega)
theorem ten_all : fromB tenB 2046 (-1074) = true := by kernel_rfl
theorem sk_all : fromB skB 2046 (-1074) = true := by kernel_rfl
def lp2B (p : Int) : Bool := ltB 1048576 p 2097150 (lpw p) && (gtB 1 p 1 (lpw p) || (leB 1 p 1 (lpw p) && p == 0))
theorem lp_all : fromB lp2B 696 (-348) = true := by kernel_rfl
end Go.Proofs.YtnggkkdcddpjlaaGreatDoor
namespace Go.Proofs.YtnggkkdcddpjlaaGreatDoor
open Go.RowKit
set_option linter.unusedVariables false
set_option maxRecDepth 100000
theorem wide_in (odd : Int) (lo hi : Rat) (h : lo + 1 < hi) : ∃ t : Int, InIv odd lo hi t := by
  refine ⟨lo.floor + 1, ?_⟩
  have h1 := Rat.floor_le lo
  have h2 := @Rat.lt_floor lo
  have e : ((lo.floor + 1 : Int) : Rat) = (lo.floor : Rat) + 1 := by rw [Rat.intCast_add]; rfl
  unfold InIv
  rw [e]
  constructor
  · split <;> grind
  · split <;> grind
theorem whole_in (odd M : Int) (W : Rat) (hW : 1 ≤ W) : ∃ t : Int, InIv odd ((M - 1 / 2) * W) ((M + 1 / 2) * W) t := by
  rcases Rat.le_iff_lt_or_eq.1 hW with h | h
  · exact wide_in _ _ _ (by grind)
  · refine ⟨M, ?_⟩
    unfold InIv
    rw [← h]
    constructor
    · split <;> grind
    · split <;> grind
theorem rounds_of (odd M t : Int) (W : Rat) (hW : 0 < W) (ho : odd = M % 2) (h : InIv odd ((M - 1 / 2) * W) ((M + 1 / 2) * W) t) : Rounds ((t : Rat) / W) M := by
  have hw : W ≠ 0 := by grind
  have e : (t : Rat) = (t : Rat) / W * W := (Rat.div_mul_cancel hw).symm
  obtain ⟨Y, hY⟩ : ∃ Y, Y = (t : Rat) / W := ⟨_, rfl⟩
  rw [← hY] at e ⊢
  unfold InIv at h
  rw [e] at h
  unfold Rounds
  have le1 : ∀ a b : Rat, a * W ≤ b * W → a ≤ b := fun a b h => Rat.le_of_mul_le_mul_right h hW
  have lt1 : ∀ a b : Rat, a * W < b * W → a < b := fun a b h => Rat.lt_of_mul_lt_mul_right h (Rat.le_of_lt hW)
  by_cases hM : M % 2 = 0
  · rw [if_pos hM]
    rw [if_pos (by omega), if_pos (by omega)] at h
    have h1 := le1 _ _ h.1
    have h2 := le1 _ _ h.2
    constructor <;> grind
  · rw [if_neg hM]
    rw [if_neg (by omega), if_neg (by omega)] at h
    have h1 := lt1 _ _ h.1
    have h2 := lt1 _ _ h.2
    constructor <;> grind
theorem ten_at (k : Int) (h0 : -1074 ≤ k) (h1 : k ≤ 971) : 1 ≤ (10 : Rat) ^ (-qOf k) * (2 : Rat) ^ k ∧ (10 : Rat) ^ (-qOf k) * (2 : Rat) ^ k < 10 ∧ k - 11 + lpw (-qOf k) + 3 ≤ -5 ∧ -63 ≤ k - 11 + lpw (-qOf k) + 3 := by
  have h := fromB_at tenB 2046 (-1074) ten_all k h0 (by omega)
  unfold tenB at h
  simp only [Bool.and_eq_true, decide_eq_true_eq] at h
  obtain ⟨⟨⟨a, b⟩, c⟩, d⟩ := h
  have a := le_rat a
  have b := gt_rat b
  have e1 : ((1 : Nat) : Rat) = 1 := rfl
  rw [e1] at a b
  have p : (0 : Rat) < (10 : Rat) ^ (-qOf k) := Rat.zpow_pos (by decide)
  have e2 : (10 : Rat) ^ (-qOf k) * (10 : Rat) ^ (qOf k) = 1 := by
    rw [← Rat.zpow_add (by decide)]
    have : -qOf k + qOf k = 0 := by omega
    rw [this]
    rfl
  have e3 : (10 : Rat) ^ (qOf k + 1) = (10 : Rat) ^ (qOf k) * 10 := Rat.zpow_add_one (by decide) _
  rw [e3] at b
  have a2 := Rat.mul_le_mul_of_nonneg_left a (Rat.le_of_lt p)
  have b2 := Rat.mul_lt_mul_of_pos_left b p
  refine ⟨by grind, by grind, c, d⟩
end Go.Proofs.YtnggkkdcddpjlaaGreatDoor
namespace Go.Proofs.YtnggkkdcddpjlaaGreatDoor
open Go.RowKit
set_option linter.unusedVariables false
set_option maxRecDepth 100000
/-- The scale of the digits. -/
def scW (q k : Int) : Rat := (10 : Rat) ^ (-q) * (2 : Rat) ^ k
theorem sym_in (M P : Nat) (z k : Int) (hM0 : 0 < M) (hP : 0 < P) (hz : (2 : Rat) ^ z = ((P * 1024 : Nat) : Rat)) (hM1 : (2 * M + 1) * P < 36028797018963968) (hM2 : M < 9007199254740992) (h0 : -1074 ≤ k) (h1 : k ≤ 971) (hz1 : 11 ≤ z) (hs1 : -63 ≤ k - z + lpw (-qOf k) + 3) (odd : Int) (ho : odd = (M : Int) % 2) :
    ∃ t : Int, Rounds ((t : Rat) / scW (qOf k) k) M ∧ (t : Rat) ≤ 100000000000000000 ∧ 0 < t ∧
      (((sfTail ((2 * M * P * 512 : Nat) : Int) (k - z) (qOf k) (((2 * M - 1) * P * 512 : Nat) : Int) (((2 * M + 1) * P * 512 : Nat) : Int) odd).2 = qOf k ∧ t = (sfTail ((2 * M * P * 512 : Nat) : Int) (k - z) (qOf k) (((2 * M - 1) * P * 512 : Nat) : Int) (((2 * M + 1) * P * 512 : Nat) : Int) odd).1) ∨
       ((sfTail ((2 * M * P * 512 : Nat) : Int) (k - z) (qOf k) (((2 * M - 1) * P * 512 : Nat) : Int) (((2 * M + 1) * P * 512 : Nat) : Int) odd).2 = qOf k + 1 ∧ t = 10 * (sfTail ((2 * M * P * 512 : Nat) : Int) (k - z) (qOf k) (((2 * M - 1) * P * 512 : Nat) : Int) (((2 * M + 1) * P * 512 : Nat) : Int) odd).1)) := by
  obtain ⟨w1, w2, s1, _⟩ := ten_at k h0 h1
  have hq : -345 ≤ qOf k ∧ qOf k ≤ 345 := by unfold qOf; omega
  have hW : scW (qOf k) k = (10 : Rat) ^ (-qOf k) * (2 : Rat) ^ k := rfl
  rw [← hW] at w1 w2
  have hkz : (2 : Rat) ^ (k - z) * ((P * 1024 : Nat) : Rat) = (2 : Rat) ^ k := by
    rw [← hz, ← Rat.zpow_add (by decide)]
    congr 1
    omega
  rw [Rat.natCast_mul] at hkz
  have e1024 : ((1024 : Nat) : Rat) = 1024 := rfl
  have e512 : ((512 : Nat) : Rat) = 512 := rfl
  rw [e1024] at hkz
  have m1 : (((2 * M - 1 : Nat)) : Rat) = 2 * (M : Rat) - 1 := by
    have : ((2 * M - 1 : Nat) : Rat) + ((1 : Nat) : Rat) = ((2 * M : Nat) : Rat) := by
      rw [← Rat.natCast_add]
      congr 1
      omega
    rw [Rat.natCast_mul] at this
    have e2 : ((2 : Nat) : Rat) = 2 := rfl
    have e1 : ((1 : Nat) : Rat) = 1 := rfl
    rw [e2, e1] at this
    grind
  have m2 : (((2 * M + 1 : Nat)) : Rat) = 2 * (M : Rat) + 1 := by
    rw [Rat.natCast_add, Rat.natCast_mul]
    rfl
  have lo : (((2 * M - 1) * P * 512 : Nat) : Rat) * (10 : Rat) ^ (-qOf k) * (2 : Rat) ^ (k - z) = (((M : Nat) : Int) - 1 / 2) * scW (qOf k) k := by
    rw [Rat.natCast_mul, Rat.natCast_mul, m1, e512, hW, ← hkz]
    have : (((M : Nat) : Int) : Rat) = (M : Rat) := Rat.intCast_natCast M
    rw [this]
    grind
  have hi : (((2 * M + 1) * P * 512 : Nat) : Rat) * (10 : Rat) ^ (-qOf k) * (2 : Rat) ^ (k - z) = (((M : Nat) : Int) + 1 / 2) * scW (qOf k) k := by
    rw [Rat.natCast_mul, Rat.natCast_mul, m2, e512, hW, ← hkz]
    have : (((M : Nat) : Int) : Rat) = (M : Rat) := Rat.intCast_natCast M
    rw [this]
    grind
  have n1 : 0 < (2 * M - 1) * P := Nat.mul_pos (by omega) hP
  have n2 : (2 * M - 1) * P + P = 2 * M * P := by
    rw [← Nat.succ_mul]
    congr 1
    omega
  have n3 : (2 * M + 1) * P = 2 * M * P + P := Nat.succ_mul _ _
  have c0 : ((M : Nat) : Rat) ≤ 9007199254740991 := by
    have : ((M : Nat) : Rat) ≤ ((9007199254740991 : Nat) : Rat) := Rat.natCast_le_natCast.2 (by omega)
    exact this
  have c1 : 1 ≤ ((M : Nat) : Rat) := by
    have : ((1 : Nat) : Rat) ≤ ((M : Nat) : Rat) := Rat.natCast_le_natCast.2 (by omega)
    exact this
  have cM : (((M : Nat) : Int) : Rat) = (M : Rat) := Rat.intCast_natCast M
  have hM5 : (M : Rat) * 1 ≤ (M : Rat) * scW (qOf k) k := Rat.mul_le_mul_of_nonneg_left w1 (by grind)
  have hM6 : (M : Rat) * scW (qOf k) k ≤ (M : Rat) * 10 := Rat.mul_le_mul_of_nonneg_left (Rat.le_of_lt w2) (by grind)
  have up : (((M : Nat) : Int) + 1 / 2) * scW (qOf k) k ≤ 100000000000000000 := by rw [cM]; grind
  obtain ⟨t, ht, hh⟩ := sf_gen (k - z) (qOf k) odd (2 * M * P) ((2 * M - 1) * P) ((2 * M + 1) * P) n1 (by omega) (by omega) hM1 (by omega) (by omega) (by omega) (by omega) (by omega) (by omega) hs1
    (by rw [lo, hi]; exact whole_in odd M _ w1) (by rw [hi, cM]; grind) (by rw [hi]; exact Rat.le_trans up (by decide +kernel))
  rw [lo, hi] at ht
  refine ⟨t, rounds_of odd M t _ (by grind) ho ht, ?_, ?_, hh⟩
  · have h2 := ht.2
    split at h2
    · exact Rat.le_trans h2 up
    · exact Rat.le_trans (Rat.le_of_lt h2) up
  · have h2 := ht.1
    have h3 : (0 : Rat) < (t : Rat) := by
      rw [cM] at h2
      have h4 : 1 * scW (qOf k) k ≤ (M : Rat) * scW (qOf k) k := Rat.mul_le_mul_of_nonneg_right c1 (by grind)
      have h5 : ((M : Rat) - 1 / 2) * scW (qOf k) k = (M : Rat) * scW (qOf k) k - scW (qOf k) k / 2 := by grind
      rw [h5] at h2
      clear lo hi up hkz hW hM5 hM6 hh
      split at h2
      · grind
      · grind
    have : ((0 : Int) : Rat) < (t : Rat) := h3
    exact Rat.intCast_lt_intCast.1 this
end Go.Proofs.YtnggkkdcddpjlaaGreatDoor
namespace Go.Proofs.YtnggkkdcddpjlaaGreatDoor
open Go.RowKit
set_option linter.unusedVariables false
set_option maxRecDepth 100000
theorem sk_at (k : Int) (h0 : -1074 ≤ k) (h1 : k ≤ 971) : 4 < 3 * scW (qSk k) k ∧ 3 * scW (qSk k) k < 40 ∧ k - 11 + lpw (-qSk k) + 3 ≤ -5 ∧ -63 ≤ k - 11 + lpw (-qSk k) + 3 := by
  have h := fromB_at skB 2046 (-1074) sk_all k h0 (by omega)
  unfold skB at h
  simp only [Bool.and_eq_true, decide_eq_true_eq] at h
  obtain ⟨⟨⟨a, b⟩, c⟩, d⟩ := h
  have a := lt_rat a
  have b := gt_rat b
  have e1 : ((3 : Nat) : Rat) = 3 := rfl
  have e4 : ((4 : Nat) : Rat) = 4 := rfl
  rw [e1, e4] at a b
  unfold scW
  have p : (0 : Rat) < (10 : Rat) ^ (-qSk k) := Rat.zpow_pos (by decide)
  have e2 : (10 : Rat) ^ (-qSk k) * (10 : Rat) ^ (qSk k) = 1 := by
    rw [← Rat.zpow_add (by decide)]
    have : -qSk k + qSk k = 0 := by omega
    rw [this]
    rfl
  have e3 : (10 : Rat) ^ (qSk k + 1) = (10 : Rat) ^ (qSk k) * 10 := Rat.zpow_add_one (by decide) _
  rw [e3] at b
  have a2 := Rat.mul_lt_mul_of_pos_left a p
  have b2 := Rat.mul_lt_mul_of_pos_left b p
  refine ⟨by grind, by grind, c, d⟩
theorem skew_in (k : Int) (h0 : -1074 < k) (h1 : k ≤ 971) :
    ∃ t : Int, Rounds ((t : Rat) / scW (qSk k) k) 4503599627370496 ∧ 4 * ((4503599627370496 : Int) : Rat) - 1 ≤ 4 * ((t : Rat) / scW (qSk k) k) ∧ (t : Rat) ≤ 100000000000000000 ∧ 0 < t ∧
      (((sfTail ((18014398509481984 * 512 : Nat) : Int) (k - 11) (qSk k) ((18014398509481983 * 512 : Nat) : Int) ((18014398509481986 * 512 : Nat) : Int) 0).2 = qSk k ∧ t = (sfTail ((18014398509481984 * 512 : Nat) : Int) (k - 11) (qSk k) ((18014398509481983 * 512 : Nat) : Int) ((18014398509481986 * 512 : Nat) : Int) 0).1) ∨
       ((sfTail ((18014398509481984 * 512 : Nat) : Int) (k - 11) (qSk k) ((18014398509481983 * 512 : Nat) : Int) ((18014398509481986 * 512 : Nat) : Int) 0).2 = qSk k + 1 ∧ t = 10 * (sfTail ((18014398509481984 * 512 : Nat) : Int) (k - 11) (qSk k) ((18014398509481983 * 512 : Nat) : Int) ((18014398509481986 * 512 : Nat) : Int) 0).1)) := by
  obtain ⟨w1, w2, s1, s2⟩ := sk_at k (by omega) h1
  have hq : -345 ≤ qSk k ∧ qSk k ≤ 345 := by unfold qSk; omega
  have hW : scW (qSk k) k = (10 : Rat) ^ (-qSk k) * (2 : Rat) ^ k := rfl
  have hkz : (2 : Rat) ^ (k - 11) * 2048 = (2 : Rat) ^ k := by
    have : (2 : Rat) ^ (11 : Int) = 2048 := by decide +kernel
    rw [← this, ← Rat.zpow_add (by decide)]
    congr 1
    omega
  have c1 : ((18014398509481983 * 512 : Nat) : Rat) = 18014398509481983 * 512 := by rw [Rat.natCast_mul]; rfl
  have c2 : ((18014398509481986 * 512 : Nat) : Rat) = 18014398509481986 * 512 := by rw [Rat.natCast_mul]; rfl
  obtain ⟨W, hWW⟩ : ∃ W, W = scW (qSk k) k := ⟨_, rfl⟩
  have lo : ((18014398509481983 * 512 : Nat) : Rat) * (10 : Rat) ^ (-qSk k) * (2 : Rat) ^ (k - 11) = (4503599627370496 - 1 / 4) * W := by
    rw [c1, hWW, hW, ← hkz]
    grind
  have hi : ((18014398509481986 * 512 : Nat) : Rat) * (10 : Rat) ^ (-qSk k) * (2 : Rat) ^ (k - 11) = (4503599627370496 + 1 / 2) * W := by
    rw [c2, hWW, hW, ← hkz]
    grind
  rw [← hWW] at w1 w2 ⊢
  obtain ⟨t, ht, hh⟩ := sf_gen (k - 11) (qSk k) 0 18014398509481984 18014398509481983 18014398509481986 (by omega) (by omega) (by omega) (by omega) (by omega) (by omega) (by omega) (by omega) (by omega) s1 s2
    (by rw [lo, hi]; exact wide_in _ _ _ (by grind)) (by rw [hi]; grind) (by rw [hi]; grind)
  rw [lo, hi] at ht
  clear lo hi hkz hW c1 c2
  unfold InIv at ht
  rw [if_pos rfl, if_pos rfl] at ht
  have hw : W ≠ 0 := by grind
  have hW0 : 0 < W := by grind
  have e : (t : Rat) = (t : Rat) / W * W := (Rat.div_mul_cancel hw).symm
  obtain ⟨t1, t2⟩ := ht
  have l1 : (4503599627370496 - 1 / 4 : Rat) ≤ (t : Rat) / W := by
    refine Rat.le_of_mul_le_mul_right ?_ hW0
    rw [← e]
    exact t1
  have l2 : (t : Rat) / W ≤ (4503599627370496 + 1 / 2 : Rat) := by
    refine Rat.le_of_mul_le_mul_right ?_ hW0
    rw [← e]
    exact t2
  have eM : ((4503599627370496 : Int) : Rat) = 4503599627370496 := rfl
  refine ⟨t, ?_, ?_, by grind, ?_, hh⟩
  · unfold Rounds
    rw [if_pos (by decide), eM]
    constructor <;> grind
  · rw [eM]
    grind
  · have h3 : (0 : Rat) < (t : Rat) := by grind
    have : ((0 : Int) : Rat) < (t : Rat) := h3
    exact Rat.intCast_lt_intCast.1 this
end Go.Proofs.YtnggkkdcddpjlaaGreatDoor
namespace Go.Proofs.YtnggkkdcddpjlaaGreatDoor
open Go.RowKit
set_option linter.unusedVariables false
set_option maxRecDepth 100000
theorem lp_at (p : Int) (h0 : -348 ≤ p) (h1 : p ≤ 347) : (2 : Rat) ^ (lpw p) ≤ (10 : Rat) ^ p ∧ 1048576 * (10 : Rat) ^ p < 2097150 * (2 : Rat) ^ (lpw p) := by
  have h := fromB_at lp2B 696 (-348) lp_all p h0 (by omega)
  unfold lp2B at h
  simp only [Bool.and_eq_true, Bool.or_eq_true, beq_iff_eq] at h
  obtain ⟨a, b⟩ := h
  have a := lt_rat a
  have e1 : ((1 : Nat) : Rat) = 1 := rfl
  have e2 : ((1048576 : Nat) : Rat) = 1048576 := rfl
  have e3 : ((2097150 : Nat) : Rat) = 2097150 := rfl
  rw [e2, e3] at a
  refine ⟨?_, a⟩
  rcases b with b | ⟨_, b⟩
  · have b := gt_rat b
    rw [e1] at b
    grind
  · subst b
    have : lpw 0 = 0 := by decide
    rw [this]
    decide
theorem pa_unr (d : Nat) (p e : Int) (b : Nat) (hd0 : 0 < d) (hb : b ≤ 57) (hd : d < 2 ^ b) (hp0 : -348 ≤ p) (hp1 : p ≤ 347) (he : e ≤ 53 - b - lpw p) (hs : -63 ≤ e - (64 - b) + lpw p + 3) :
    Unr (scl (e - (64 - b)) p ((d * 2 ^ (64 - b) : Nat) : Int)) (4 * ((d : Rat) * (10 : Rat) ^ p * (2 : Rat) ^ e)) := by
  have en : d * 2 ^ (64 - b) = d * 2 ^ (57 - b) * 128 := by
    have : (128 : Nat) = 2 ^ 7 := by decide
    rw [this, Nat.mul_assoc, ← Nat.pow_add]
    congr 2
    omega
  have hn : d * 2 ^ (57 - b) < 144115188075855872 := by
    have h1 : d * 2 ^ (57 - b) < 2 ^ b * 2 ^ (57 - b) := Nat.mul_lt_mul_of_pos_right hd (Nat.two_pow_pos _)
    rw [← Nat.pow_add] at h1
    have : b + (57 - b) = 57 := by omega
    rw [this] at h1
    have : (2 : Nat) ^ 57 = 144115188075855872 := by decide
    omega
  have h := scl_unr_pa (e - (64 - b)) p (d * 2 ^ (57 - b)) hp0 hp1 (Nat.mul_pos hd0 (Nat.two_pow_pos _)) hn (by omega) hs
  rw [← en] at h
  rw [two_up] at h
  have e2 : ((d * 2 ^ (64 - b) : Nat) : Rat) * (2 : Rat) ^ (e - (64 - b)) = (d : Rat) * (2 : Rat) ^ e := by
    rw [Rat.natCast_mul, cast_pow]
    have c2 : ((2 : Nat) : Rat) = 2 := rfl
    rw [c2, ← Rat.zpow_natCast, Rat.mul_assoc, ← Rat.zpow_add (by decide)]
    congr 2
    omega
  have e3 : ((d * 2 ^ (64 - b) : Nat) : Rat) * (10 : Rat) ^ p * (4 * (2 : Rat) ^ (e - (64 - b))) = 4 * ((d : Rat) * (10 : Rat) ^ p * (2 : Rat) ^ e) := by
    have : ((d * 2 ^ (64 - b) : Nat) : Rat) * (10 : Rat) ^ p * (4 * (2 : Rat) ^ (e - (64 - b))) = 4 * ((10 : Rat) ^ p * (((d * 2 ^ (64 - b) : Nat) : Rat) * (2 : Rat) ^ (e - (64 - b)))) := by grind
    rw [this, e2]
    grind
  rw [e3] at h
  exact h
theorem pa_bounds (d : Nat) (p e : Int) (b : Nat) (hb0 : 1 ≤ b) (hd0 : 2 ^ (b - 1) ≤ d) (hd : d < 2 ^ b) (hp0 : -348 ≤ p) (hp1 : p ≤ 347) (he : e = min 1074 (53 - b - lpw p)) :
    (e = 1074 ∨ 4503599627370496 ≤ (d : Rat) * (10 : Rat) ^ p * (2 : Rat) ^ e) ∧ (d : Rat) * (10 : Rat) ^ p * (2 : Rat) ^ e < 18014398509481984 - 2 := by
  obtain ⟨l1, l2⟩ := lp_at p hp0 hp1
  have p2 := two_pos e
  have c2 : ((2 : Nat) : Rat) = 2 := rfl
  have d0 : (2 : Rat) ^ (((b : Int)) - 1) ≤ (d : Rat) := by
    have := Rat.natCast_le_natCast.2 hd0
    rw [cast_pow, c2, ← Rat.zpow_natCast] at this
    have e1 : (((b - 1 : Nat)) : Int) = (b : Int) - 1 := by omega
    rw [e1] at this
    exact this
  have d1 : (d : Rat) ≤ (2 : Rat) ^ (b : Int) := by
    have := Rat.natCast_le_natCast.2 (Nat.le_of_lt hd)
    rw [cast_pow, c2, ← Rat.zpow_natCast] at this
    exact this
  have t0 := two_pos ((b : Int) - 1)
  have t1 := two_pos (lpw p)
  have t2 := two_pos (b : Int)
  have tp : (0 : Rat) < (10 : Rat) ^ p := Rat.zpow_pos (by decide)
  refine ⟨?_, ?_⟩
  · rcases (by omega : e = 1074 ∨ e = 53 - b - lpw p) with h | h
    · exact Or.inl h
    · right
      have a1 : (2 : Rat) ^ ((b : Int) - 1) * (2 : Rat) ^ (lpw p) ≤ (d : Rat) * (10 : Rat) ^ p :=
        Rat.le_trans (Rat.mul_le_mul_of_nonneg_left l1 (Rat.le_of_lt t0)) (Rat.mul_le_mul_of_nonneg_right d0 (Rat.le_of_lt tp))
      have a2 := Rat.mul_le_mul_of_nonneg_right a1 (Rat.le_of_lt p2)
      rw [← Rat.zpow_add (by decide), ← Rat.zpow_add (by decide)] at a2
      have e1 : (b : Int) - 1 + lpw p + e = 52 := by omega
      rw [e1] at a2
      have e52 : (2 : Rat) ^ (52 : Int) = 4503599627370496 := by decide +kernel
      rw [e52] at a2
      exact a2
  · have a1 : (d : Rat) * (1048576 * (10 : Rat) ^ p) ≤ (2 : Rat) ^ (b : Int) * (1048576 * (10 : Rat) ^ p) := Rat.mul_le_mul_of_nonneg_right d1 (by grind)
    have a2 : (2 : Rat) ^ (b : Int) * (1048576 * (10 : Rat) ^ p) < (2 : Rat) ^ (b : Int) * (2097150 * (2 : Rat) ^ (lpw p)) := Rat.mul_lt_mul_of_pos_left l2 t2
    have a3 : (d : Rat) * (1048576 * (10 : Rat) ^ p) < (2 : Rat) ^ (b : Int) * (2097150 * (2 : Rat) ^ (lpw p)) := by grind
    have a4 := Rat.mul_lt_mul_of_pos_right a3 p2
    have e1 : (2 : Rat) ^ (b : Int) * (2097150 * (2 : Rat) ^ (lpw p)) * (2 : Rat) ^ e = 2097150 * ((2 : Rat) ^ (b : Int) * (2 : Rat) ^ (lpw p) * (2 : Rat) ^ e) := by grind
    rw [e1, ← Rat.zpow_add (by decide), ← Rat.zpow_add (by decide)] at a4
    have a5 := two_ge 53 ((b : Int) + lpw p + e) (by omega)
    have e53 : (2 : Rat) ^ (53 : Int) = 9007199254740992 := by decide +kernel
    rw [e53] at a5
    have e4 : (d : Rat) * (1048576 * (10 : Rat) ^ p) * (2 : Rat) ^ e = 1048576 * ((d : Rat) * (10 : Rat) ^ p * (2 : Rat) ^ e) := by grind
    rw [e4] at a4
    grind
end Go.Proofs.YtnggkkdcddpjlaaGreatDoor
namespace Go.Proofs.YtnggkkdcddpjlaaGreatDoor
open Go.RowKit
set_option linter.unusedVariables false
set_option maxRecDepth 100000
theorem pa_word (U : Int) (X Y : Rat) (M k e : Int) (hU : Unr U (4 * X)) (hU0 : 0 ≤ U) (hM0 : 0 < M) (hM1 : M < 9007199254740992) (hk : -1074 ≤ k) (hn : 4503599627370496 ≤ M ∨ k = -1074) (he : e ≤ 1074)
    (hXY : X = Y * (2 : Rat) ^ (k + e)) (hR : Rounds Y M) (hq : M = 4503599627370496 → -1074 < k → 4 * (M : Rat) - 1 ≤ 4 * Y)
    (hX : e = 1074 ∨ 4503599627370496 ≤ X) (hX2 : X < 18014398509481984 - 2) :
    (36028797018963966 ≤ U → rnd (bits BinOp.or IntKind.u64 (U / 2) (bits BinOp.and IntKind.u64 U 1)) = M ∧ -(e - 1) = k) ∧
    (¬ 36028797018963966 ≤ U → rnd (bits BinOp.or IntKind.u64 U (bits BinOp.and IntKind.u64 U 1)) = M ∧ -e = k) := by
  obtain ⟨p1, p2⟩ := parse_pos X Y M k e hM0 hM1 hk hn he hXY hR hq hX (Rat.le_of_lt hX2) (by grind)
  have hl := unr_lt hU 9007199254740992
  have e53 : ((9007199254740992 : Int) : Rat) = 9007199254740992 := rfl
  have e54 : 2 * (9007199254740992 : Rat) - 1 = 18014398509481983 := by decide +kernel
  rw [e53, e54] at hl
  have e55 : (4 * 9007199254740992 - 2 : Int) = 36028797018963966 := by decide
  rw [e55] at hl
  have hU1 : U ≤ 2 * 36028797018963968 := by
    refine (hU 36028797018963968).1.2 ?_
    have : ((2 * 36028797018963968 : Int) : Rat) = 4 * 18014398509481984 := by decide +kernel
    rw [this]
    grind
  have ha : bits BinOp.and IntKind.u64 U 1 = U % 2 := and_one U hU0 (by omega)
  obtain ⟨u, rfl⟩ : ∃ u : Nat, U = u := ⟨U.toNat, by omega⟩
  have hc : ((u : Int) % 2) = ((u % 2 : Nat) : Int) := by omega
  have hh : ((u : Int) / 2) = ((u / 2 : Nat) : Int) := by omega
  rw [ha, hc, hh]
  refine ⟨fun h => ?_, fun h => ?_⟩
  · obtain ⟨k1, k2⟩ := p1 (hl.1 h)
    refine ⟨?_, by omega⟩
    rw [or_bit (u / 2) (u % 2) (by omega) (by omega)]
    have hv := unr_half hU
    rw [k2] at hv
    have e1 : (if (u : Int) % 2 = 0 then (u : Int) / 2 else (u : Int) / 2 / 2 * 2 + 1) = (if u % 2 = 0 then ((u / 2 : Nat) : Int) else ((u / 2 / 2 * 2 + 1 : Nat) : Int)) := by
      by_cases h0 : u % 2 = 0
      · rw [if_pos h0, if_pos (by omega)]; omega
      · rw [if_neg h0, if_neg (by omega)]; omega
    rw [e1] at hv
    have hr := rnd_to hv hR
    rw [rnd_eq _ (by split <;> omega) (by split <;> omega)]
    exact hr
  · obtain ⟨k1, k2⟩ := p2 (fun hc => h (hl.2 hc))
    refine ⟨?_, by omega⟩
    rw [or_bit u (u % 2) (by omega) (by omega)]
    have e1 : (if u % 2 = 0 then (u : Int) else ((u / 2 * 2 + 1 : Nat) : Int)) = (u : Int) := by
      split <;> omega
    rw [e1]
    rw [k2] at hU
    rw [rnd_eq _ hU0 (by omega)]
    exact rnd_to hU hR
end Go.Proofs.YtnggkkdcddpjlaaGreatDoor
namespace Go.Proofs.YtnggkkdcddpjlaaGreatDoor
open Go.RowKit
set_option linter.unusedVariables false
set_option maxRecDepth 100000
/-- d*10^q rounds to the float M*2^k. -/
structure Back (M k d q : Int) : Prop where
  d0 : 0 < d
  d1 : d ≤ 100000000000000000
  r : Rounds ((d : Rat) * (10 : Rat) ^ q * (2 : Rat) ^ (-k)) M
  low : M = 4503599627370496 → -1074 < k → 4 * (M : Rat) - 1 ≤ 4 * ((d : Rat) * (10 : Rat) ^ q * (2 : Rat) ^ (-k))
theorem sc_inv (t : Rat) (q k : Int) : t / scW q k = t * (10 : Rat) ^ q * (2 : Rat) ^ (-k) := by
  have p1 : (10 : Rat) ^ (-q) * (10 : Rat) ^ q = 1 := by
    rw [← Rat.zpow_add (by decide)]
    have : -q + q = 0 := by omega
    rw [this]
    rfl
  have p2 : (2 : Rat) ^ k * (2 : Rat) ^ (-k) = 1 := by
    rw [← Rat.zpow_add (by decide)]
    have : k + -k = 0 := by omega
    rw [this]
    rfl
  have p3 : (0 : Rat) < scW q k := Rat.mul_pos (Rat.zpow_pos (by decide)) (Rat.zpow_pos (by decide))
  have p4 : scW q k = (10 : Rat) ^ (-q) * (2 : Rat) ^ k := rfl
  have p5 : scW q k ≠ 0 := by grind
  have : t * (10 : Rat) ^ q * (2 : Rat) ^ (-k) * scW q k = t := by rw [p4]; grind
  grind
theorem back_of (M k t q d q' : Int) (hr : Rounds ((t : Rat) / scW q k) M) (hl : M = 4503599627370496 → -1074 < k → 4 * (M : Rat) - 1 ≤ 4 * ((t : Rat) / scW q k)) (ht : (t : Rat) ≤ 100000000000000000) (h0 : 0 < t)
    (h : (q' = q ∧ t = d) ∨ (q' = q + 1 ∧ t = 10 * d)) : Back M k d q' := by
  rw [sc_inv] at hr hl
  have ht2 : t ≤ 100000000000000000 := Rat.intCast_le_intCast.1 (show (t : Rat) ≤ ((100000000000000000 : Int) : Rat) from ht)
  rcases h with ⟨rfl, rfl⟩ | ⟨rfl, rfl⟩
  · exact ⟨h0, ht2, hr, hl⟩
  · have e : ((10 * d : Int) : Rat) * (10 : Rat) ^ q = (d : Rat) * (10 : Rat) ^ (q + 1) := by
      rw [Rat.intCast_mul, Rat.zpow_add_one (by decide)]
      have : ((10 : Int) : Rat) = 10 := rfl
      rw [this]
      grind
    rw [e] at hr hl
    exact ⟨by omega, by omega, hr, hl⟩
end Go.Proofs.YtnggkkdcddpjlaaGreatDoor
namespace Go.Proofs.YtnggkkdcddpjlaaGreatDoor
open Go.RowKit
set_option linter.unusedVariables false
set_option maxRecDepth 100000
theorem and_one_i (x : Int) (h0 : 0 ≤ x) (h1 : x < 9223372036854775808) : bits BinOp.and IntKind.i64 x 1 = x % 2 := by
  have key : (BitVec.ofInt 64 x &&& BitVec.ofInt 64 1).toNat = x.toNat % 2 := by
    rw [BitVec.toNat_and, BitVec.toNat_ofInt]
    have e1 : (x % ((2 ^ 64 : Nat) : Int)).toNat = x.toNat := by omega
    have e2 : (BitVec.ofInt 64 1).toNat = 2 ^ 1 - 1 := by decide
    rw [e1, e2, Nat.and_two_pow_sub_one_eq_mod]
  show IntKind.i64.wrap ((BitVec.ofInt 64 x &&& BitVec.ofInt 64 1).toNat : Nat) = _
  rw [key, IntKind.wrap_i64]
  omega
/-- shortFloat[float64] answers d, q. -/
def Sh64 (m e d q : Int) : Prop := ∀ w, PowAt w → 8 ≤ w.heap.size → Calls Tryz.prog 209 #[.int .u64 m, .int .i64 e] w fun r w' => r = .returned (.tuple #[.int .u64 d, .int .i64 q]) ∧ Below w.heap.size w w'
theorem skew_in2 (k m mn mx : Int) (hm : m = 9223372036854775808) (hmn : mn = 9223372036854775296) (hmx : mx = 9223372036854776832) (h0 : -1074 < k) (h1 : k ≤ 971) :
    ∃ t : Int, Rounds ((t : Rat) / scW (qSk k) k) 4503599627370496 ∧ 4 * ((4503599627370496 : Int) : Rat) - 1 ≤ 4 * ((t : Rat) / scW (qSk k) k) ∧ (t : Rat) ≤ 100000000000000000 ∧ 0 < t ∧
      (((sfTail m (k - 11) (qSk k) mn mx 0).2 = qSk k ∧ t = (sfTail m (k - 11) (qSk k) mn mx 0).1) ∨ ((sfTail m (k - 11) (qSk k) mn mx 0).2 = qSk k + 1 ∧ t = 10 * (sfTail m (k - 11) (qSk k) mn mx 0).1)) := by
  have h := skew_in k h0 h1
  have e1 : ((18014398509481984 * 512 : Nat) : Int) = m := by rw [hm]; decide +kernel
  have e2 : ((18014398509481983 * 512 : Nat) : Int) = mn := by rw [hmn]; decide +kernel
  have e3 : ((18014398509481986 * 512 : Nat) : Int) = mx := by rw [hmx]; decide +kernel
  rw [e1, e2, e3] at h
  exact h
theorem sh_norm (M : Nat) (k : Int) (hM0 : 4503599627370496 ≤ M) (hM1 : M < 9007199254740992) (h0 : -1074 ≤ k) (h1 : k ≤ 971) : ∃ d q : Int, Back M k d q ∧ Sh64 ((M * 2048 : Nat) : Int) (k - 11) d q := by
  have ha : bits BinOp.and IntKind.i64 (((M * 2048 : Nat) : Int) / 2048) 1 = (M : Int) % 2 := by
    rw [and_one_i _ (by omega) (by omega)]
    omega
  have hx : k - 11 + 11 = k := by omega
  have hz : (2 : Rat) ^ (11 : Int) = ((2 * 1024 : Nat) : Rat) := by decide +kernel
  have e1 : ((2 * M * 2 * 512 : Nat) : Int) = ((M * 2048 : Nat) : Int) := by omega
  have e2 : (((2 * M - 1) * 2 * 512 : Nat) : Int) = IntKind.u64.wrap (((M * 2048 : Nat) : Int) - 1024) := by
    rw [IntKind.wrap_u64]; omega
  have e3 : (((2 * M + 1) * 2 * 512 : Nat) : Int) = IntKind.u64.wrap (((M * 2048 : Nat) : Int) + 1024) := by
    rw [IntKind.wrap_u64]; omega
  obtain ⟨w1, w2, s1, s2⟩ := ten_at k h0 h1
  by_cases hp : M = 4503599627370496
  · by_cases hk : k = -1074
    · obtain ⟨t, hr, ht, ht0, hh⟩ := sym_in M 2 11 k (by omega) (by omega) hz (by omega) hM1 h0 h1 (by omega) s2 ((M : Int) % 2) rfl
      rw [e1, e2, e3] at hh
      refine ⟨_, _, back_of M k t (qOf k) _ _ hr (fun _ h => by omega) ht ht0 hh, fun w hpw hw => ?_⟩
      have h := short64_b2 ((M * 2048 : Nat) : Int) (k - 11) (by omega) (by omega) (by omega) (by omega) (by simp; omega) w hpw hw
      rw [hx, ha] at h
      exact h
    · obtain ⟨t, hr, hl, ht, ht0, hh⟩ := skew_in2 k ((M * 2048 : Nat) : Int) (IntKind.u64.wrap (((M * 2048 : Nat) : Int) - 512)) (IntKind.u64.wrap (((M * 2048 : Nat) : Int) + 1024)) (by omega) (by rw [IntKind.wrap_u64]; omega) (by rw [IntKind.wrap_u64]; omega) (by omega) h1
      have f4 : (4503599627370496 : Int) = (M : Int) := by omega
      rw [f4] at hr hl
      refine ⟨_, _, back_of M k t (qSk k) _ _ hr (fun _ _ => hl) ht ht0 hh, fun w hpw hw => ?_⟩
      have h := short64_a ((M * 2048 : Nat) : Int) (k - 11) (by omega) (by omega) (by omega) (by omega) (by simp; omega) w hpw hw
      have ha2 : (M : Int) % 2 = 0 := by omega
      rw [hx, ha, ha2] at h
      exact h
  · obtain ⟨t, hr, ht, ht0, hh⟩ := sym_in M 2 11 k (by omega) (by omega) hz (by omega) hM1 h0 h1 (by omega) s2 ((M : Int) % 2) rfl
    rw [e1, e2, e3] at hh
    refine ⟨_, _, back_of M k t (qOf k) _ _ hr (fun h _ => by omega) ht ht0 hh, fun w hpw hw => ?_⟩
    have h := short64_b ((M * 2048 : Nat) : Int) (k - 11) (by omega) (by omega) (by omega) (by omega) (by simp; omega) w hpw hw
    rw [hx, ha] at h
    exact h
end Go.Proofs.YtnggkkdcddpjlaaGreatDoor
namespace Go.Proofs.YtnggkkdcddpjlaaGreatDoor
open Go.RowKit
set_option linter.unusedVariables false
set_option maxRecDepth 100000
theorem sub_call (M : Nat) (m z' Q od : Int) (g0 : 0 ≤ m) (g1 : m < 18446744073709551616) (k1 : 12 ≤ z') (k2 : z' ≤ 63) (n : Nat) (hn : (n : Int) = z') (hQ : Q = (2 : Int) ^ (n - 1)) (ha : bits BinOp.and IntKind.i64 (wrap64 (m / 2 ^ n)) 1 = od) (w : World) (hpp : PowAt w) (hw : 8 ≤ w.heap.size) :
    Calls Tryz.prog 209 #[.int .u64 m, .int .i64 (-1074 - z')] w fun r w' => r = .returned (.tuple #[.int .u64 (sfTail m (-1074 - z') (qOf (-1074)) (IntKind.u64.wrap (m - IntKind.u64.wrap Q)) (IntKind.u64.wrap (m + IntKind.u64.wrap Q)) od).1, .int .i64 (sfTail m (-1074 - z') (qOf (-1074)) (IntKind.u64.wrap (m - IntKind.u64.wrap Q)) (IntKind.u64.wrap (m + IntKind.u64.wrap Q)) od).2]) ∧ Below w.heap.size w w' := by
  have hx : (-1074 : Int) - z' + (11 + (-1085 - (-1074 - z'))) = -1074 := by omega
  have hn2 : ((11 : Int) + (-1085 - (-1074 - z'))).toNat = n := by omega
  have hcase : ∀ b, (m == 9223372036854775808) = b → Calls Tryz.prog 209 #[.int .u64 m, .int .i64 (-1074 - z')] w fun r w' => r = .returned (.tuple #[.int .u64 (sfTail m (-1074 - z') (qOf (-1074)) (IntKind.u64.wrap (m - IntKind.u64.wrap Q)) (IntKind.u64.wrap (m + IntKind.u64.wrap Q)) od).1, .int .i64 (sfTail m (-1074 - z') (qOf (-1074)) (IntKind.u64.wrap (m - IntKind.u64.wrap Q)) (IntKind.u64.wrap (m + IntKind.u64.wrap Q)) od).2]) ∧ Below w.heap.size w w' := by
    intro b hb
    cases b with
    | false =>
      have h := short64_c m (-1074 - z') g0 g1 (by omega) (by omega) hb w hpp hw
      rw [hn2, hx, ← hQ, ha] at h
      exact h
    | true =>
      have h := short64_c2 m (-1074 - z') g0 g1 (by omega) (by omega) hb w hpp hw
      rw [hn2, hx, ← hQ, ha] at h
      exact h
  exact hcase _ rfl
set_option maxHeartbeats 1000000 in
theorem sh_sub (M z : Nat) (hM0 : 0 < M) (hz0 : 12 ≤ z) (hz1 : z ≤ 63) (hM1 : M < 2 ^ (64 - z)) : ∃ d q : Int, Back M (-1074) d q ∧ Sh64 ((M * 2 ^ z : Nat) : Int) (-1074 - z) d q := by
  obtain ⟨P, hP⟩ : ∃ P, P = 2 ^ (z - 10) := ⟨_, rfl⟩
  have hP0 : 0 < P := by rw [hP]; exact Nat.two_pow_pos _
  have hPz : P * 1024 = 2 ^ z := by
    have : (1024 : Nat) = 2 ^ 10 := by decide
    rw [hP, this, ← Nat.pow_add]
    congr 1
    omega
  have hPh : P * 512 = 2 ^ (z - 1) := by
    have : (512 : Nat) = 2 ^ 9 := by decide
    rw [hP, this, ← Nat.pow_add]
    congr 1
    omega
  have hMP : (M + 1) * (P * 1024) ≤ 18446744073709551616 := by
    rw [hPz]
    have h1 : (M + 1) * 2 ^ z ≤ 2 ^ (64 - z) * 2 ^ z := Nat.mul_le_mul_right _ hM1
    rw [← Nat.pow_add] at h1
    have : 64 - z + z = 64 := by omega
    rw [this] at h1
    have : (2 : Nat) ^ 64 = 18446744073709551616 := by decide
    omega
  have hM52 : M < 4503599627370496 := by
    have h1 : 2 ^ (64 - z) ≤ 2 ^ 52 := Nat.pow_le_pow_right (by decide) (by omega)
    have : (2 : Nat) ^ 52 = 4503599627370496 := by decide
    omega
  obtain ⟨R, hR⟩ : ∃ R, R = M * P := ⟨_, rfl⟩
  have r1 : (M + 1) * (P * 1024) = R * 1024 + P * 1024 := by rw [Nat.add_mul, hR, Nat.mul_assoc]; omega
  have r2 : (2 * M + 1) * P = 2 * R + P := by rw [Nat.add_mul, hR, Nat.mul_assoc]; omega
  have r3 : (2 * M - 1) * P + P = 2 * R := by
    have : (2 * M - 1) * P + P = (2 * M - 1 + 1) * P := (Nat.succ_mul _ _).symm
    have h : 2 * M - 1 + 1 = 2 * M := by omega
    rw [this, h, hR, Nat.mul_assoc]
  have r4 : 2 * M * P = 2 * R := by rw [hR, Nat.mul_assoc]
  have r5 : M * 2 ^ z = R * 1024 := by rw [← hPz, hR, Nat.mul_assoc]
  have hRP : P ≤ R := by rw [hR]; exact Nat.le_mul_of_pos_left P hM0
  have hzr : (2 : Rat) ^ ((z : Nat) : Int) = ((P * 1024 : Nat) : Rat) := by rw [hPz, cast_pow, Rat.zpow_natCast]; rfl
  have hl : lpw (-qOf (-1074)) = 1076 := by decide
  obtain ⟨t, hr, ht, ht0, hh⟩ := sym_in M P z (-1074) hM0 hP0 hzr (by omega) (by omega) (by omega) (by omega) (by omega) (by omega) ((M : Int) % 2) rfl
  have e1 : ((2 * M * P * 512 : Nat) : Int) = ((M * 2 ^ z : Nat) : Int) := by rw [r4, r5]; omega
  have e2 : (((2 * M - 1) * P * 512 : Nat) : Int) = IntKind.u64.wrap (((M * 2 ^ z : Nat) : Int) - IntKind.u64.wrap ((P * 512 : Nat) : Int)) := by
    rw [IntKind.wrap_u64, IntKind.wrap_u64, r5]; omega
  have e3 : (((2 * M + 1) * P * 512 : Nat) : Int) = IntKind.u64.wrap (((M * 2 ^ z : Nat) : Int) + IntKind.u64.wrap ((P * 512 : Nat) : Int)) := by
    rw [IntKind.wrap_u64, IntKind.wrap_u64, r5, r2]; omega
  rw [e1, e2, e3] at hh
  have hz2 : (12 : Int) ≤ (z : Int) := Int.ofNat_le.2 hz0
  have hz3 : (z : Int) ≤ 63 := Int.ofNat_le.2 hz1
  have hM53 : (0 : Int) ≤ (M : Int) ∧ (M : Int) < 4503599627370496 := ⟨Int.natCast_nonneg _, by exact Int.ofNat_lt.2 hM52⟩
  have g0 : (0 : Int) ≤ ((M * 2 ^ z : Nat) : Int) := Int.natCast_nonneg _
  have g1 : ((M * 2 ^ z : Nat) : Int) < 18446744073709551616 := by rw [r5]; omega
  have hpw : ((P * 512 : Nat) : Int) = (2 : Int) ^ (z - 1) := by rw [hPh, Int.natCast_pow]; rfl
  have hdv : ((M * 2 ^ z : Nat) : Int) / 2 ^ z = (M : Int) := by
    rw [Int.natCast_mul, Int.natCast_pow]
    exact Int.mul_ediv_cancel _ (Int.ne_of_gt (Int.pow_pos (by decide)))
  have ha : bits BinOp.and IntKind.i64 (wrap64 (((M * 2 ^ z : Nat) : Int) / 2 ^ z)) 1 = (M : Int) % 2 := by
    rw [hdv]
    clear hh hr e1 e2 e3 r1 r2 r3 r4 r5 hzr hMP hPz hPh hpw hdv g0 g1 hM0 hM1 hM52 hR
    have : wrap64 (M : Int) = M := by unfold wrap64; omega
    rw [this, and_one_i _ (by omega) (by omega)]
  exact ⟨_, _, back_of M (-1074) t (qOf (-1074)) _ _ hr (fun h _ => absurd hM53.2 (by rw [h]; decide)) ht ht0 hh, fun w hpp hw => sub_call M _ z _ _ g0 g1 hz2 hz3 z rfl hpw ha w hpp hw⟩
end Go.Proofs.YtnggkkdcddpjlaaGreatDoor
