/- internal/strconv.atof64 at a decimal text that rounds to a float: the answer is that float. -/
import Derived.Test.YtnggkkdcddpjlaaGreatDoorZ25
import Derived.Test.YtnggkkdcddpjlaaGreatDoorZ27
import Derived.Test.YtnggkkdcddpjlaaGreatDoorZ29
namespace Go.Proofs.YtnggkkdcddpjlaaGreatDoor
open Go.RowKit Ieee
set_option linter.unusedVariables false
set_option maxRecDepth 100000
def numIs (f : Format) (x : Nat) (s : Bool) (n : Nat) : Bool := match f.read x with
  | .number t m e => (t == s) && ((m != 0) && (m * 2 ^ e.toNat == n * 2 ^ (-e).toNat))
  | _ => false
theorem num_of {f : Format} {x : Nat} {s : Bool} {n : Nat} (h : numIs f x s n = true) : Num f x s (n : Rat) := by
  unfold numIs at h
  cases hr : f.read x with
  | infinity t => rw [hr] at h; cases h
  | nan t g => rw [hr] at h; cases h
  | number t m e =>
    rw [hr] at h
    simp only [Bool.and_eq_true, beq_iff_eq, bne_iff_ne] at h
    obtain ⟨h1, h2, h3⟩ := h
    subst h1
    refine ⟨m, e, hr, h2, ?_⟩
    have h4 := congrArg (fun z : Nat => (z : Rat)) h3
    simp only [Rat.natCast_mul, two_cast] at h4
    have e1 : (2 : Rat) ^ ((e.toNat : Nat) : Int) = (2 : Rat) ^ e * (2 : Rat) ^ (((-e).toNat : Nat) : Int) := by
      rw [← two_add]
      congr 1
      omega
    have p := two_gt (((-e).toNat : Nat) : Int)
    rw [e1] at h4
    have h5 : ((m : Rat) * (2 : Rat) ^ e) * (2 : Rat) ^ (((-e).toNat : Nat) : Int) = (n : Rat) * (2 : Rat) ^ (((-e).toNat : Nat) : Int) := by rw [← h4, Rat.mul_assoc]
    have p0 : (2 : Rat) ^ (((-e).toNat : Nat) : Int) ≠ 0 := by grind
    generalize (2 : Rat) ^ (((-e).toNat : Nat) : Int) = c at h5 p p0
    generalize (m : Rat) * (2 : Rat) ^ e = a at h5 ⊢
    have h6 : a * c / c = (n : Rat) * c / c := by rw [h5]
    rw [Rat.mul_div_cancel p0, Rat.mul_div_cancel p0] at h6
    exact h6
theorem fp64_num : ∀ k, k < 23 → numIs FloatKind.f64.format (fpTab k) false (10 ^ k) = true := by decide
theorem c64_num : numIs FloatKind.f64.format 4831355200913801216 false 1000000000000000 = true ∧ numIs FloatKind.f64.format 14054727237768577024 true 1000000000000000 = true := by decide
/-- The powers of ten as floats of 32 bits. -/
def fpList32 : List Nat := [1065353216, 1092616192, 1120403456, 1148846080, 1176256512, 1203982336, 1232348160, 1259902592, 1287568416, 1315859240, 1343554297]
def fpTab32 (k : Nat) : Nat := fpList32.getD k 0
theorem fp32_num : ∀ k, k < 11 → numIs FloatKind.f32.format (fpTab32 k) false (10 ^ k) = true := by decide
theorem c32_num : numIs FloatKind.f32.format 1259902592 false 10000000 = true ∧ numIs FloatKind.f32.format 3407386240 true 10000000 = true := by decide
theorem notNought_num {f : Format} {κ : FloatKind} (hf : f = κ.format) {x : Nat} {s : Bool} {V : Rat} (h : Num f x s V) : NotNought κ x := by
  subst hf
  obtain ⟨m, e, h1, h2, _⟩ := h
  exact ⟨s, m, e, h1, h2⟩
/-- The decimal exponent of a float's text lies in the reader's range. -/
theorem p_range (m : Nat) (hm0 : 0 < m) (hm : m < 144115188075855872) (p A C P0 P1 : Int) (lo : (2 : Rat) ^ A ≤ (m : Rat) * (10 : Rat) ^ p) (hi : (m : Rat) * (10 : Rat) ^ p ≤ (2 : Rat) ^ C)
    (n0 : 144115188075855872 * (10 : Rat) ^ (P0 - 1) < (2 : Rat) ^ A) (n1 : (2 : Rat) ^ C < (10 : Rat) ^ (P1 + 1)) : P0 ≤ p ∧ p ≤ P1 := by
  have mono : ∀ a b : Int, a ≤ b → (10 : Rat) ^ a ≤ (10 : Rat) ^ b := fun a b h => by
    obtain ⟨n, hn⟩ : ∃ n : Nat, b = n + a := ⟨(b - a).toNat, by omega⟩
    have h1 : (1 : Rat) ≤ (10 : Rat) ^ ((n : Nat) : Int) := by
      rw [Rat.zpow_natCast]
      clear hn
      induction n with
      | zero => simp
      | succ n ih => rw [Rat.pow_succ]; grind
    rw [hn, Rat.zpow_add (by decide)]
    have := Rat.mul_le_mul_of_nonneg_right h1 (Rat.le_of_lt (Rat.zpow_pos (a := (10 : Rat)) (n := a) (by decide)))
    grind
  have tp : (0 : Rat) < (10 : Rat) ^ p := Rat.zpow_pos (by decide)
  have m1 : (1 : Rat) ≤ (m : Rat) := by
    have : ((1 : Nat) : Rat) ≤ (m : Rat) := Rat.natCast_le_natCast.2 hm0
    exact this
  have m2 : (m : Rat) ≤ 144115188075855872 := by
    have : (m : Rat) ≤ ((144115188075855872 : Nat) : Rat) := Rat.natCast_le_natCast.2 (by omega)
    exact this
  constructor
  · refine Decidable.byContradiction fun hc => ?_
    have h1 := mono p (P0 - 1) (by omega)
    have h2 : (m : Rat) * (10 : Rat) ^ p ≤ 144115188075855872 * (10 : Rat) ^ p := Rat.mul_le_mul_of_nonneg_right m2 (Rat.le_of_lt tp)
    grind
  · refine Decidable.byContradiction fun hc => ?_
    have h1 := mono (P1 + 1) p (by omega)
    have h2 : 1 * (10 : Rat) ^ p ≤ (m : Rat) * (10 : Rat) ^ p := Rat.mul_le_mul_of_nonneg_right m1 (Rat.le_of_lt tp)
    grind
/-- What rounds to a finite float is not past the greatest one's double. -/
theorem not_past (V : Rat) (M k B E C : Int) (hM : M < B) (hB : (B : Rat) = (2 : Rat) ^ E) (hk : k + E + 1 ≤ C) (hR : Rounds (V * (2 : Rat) ^ (-k)) M) : V ≤ (2 : Rat) ^ C := by
  have hi := rounds_hi hR
  have m1 : (M : Rat) + 1 ≤ (B : Rat) := by
    have : ((M + 1 : Int) : Rat) ≤ (B : Rat) := Rat.intCast_le_intCast.2 (by omega)
    rw [Rat.intCast_add] at this
    exact this
  have tk := two_gt k
  have h1 : V * (2 : Rat) ^ (-k) ≤ (2 : Rat) ^ E := by rw [← hB]; grind
  have h2 := Rat.mul_le_mul_of_nonneg_right h1 (Rat.le_of_lt tk)
  have h3 : V * (2 : Rat) ^ (-k) * (2 : Rat) ^ k = V := by
    rw [Rat.mul_assoc, ← two_add]
    have : -k + k = 0 := by omega
    rw [this]
    have : (2 : Rat) ^ (0 : Int) = 1 := by decide
    rw [this, Rat.mul_one]
  rw [h3, ← two_add] at h2
  have h4 := two_mono C (E + k) (by omega)
  grind
theorem sgn_sgW (ng : Bool) : sgn ng = ((sgW 9223372036854775808 ng : Nat) : Int) := by cases ng <;> rfl
/-- atof64 at a text that is read as m*10^p, which rounds to M*2^k. -/
theorem at64_word (s : ByteArray) (hs : (s.size : Int) ≤ 1000000) (f0 n0 : Nat) (hSp : SpRun s f0 n0 false) (m : Nat) (p : Int) (ng : Bool) (n : Nat) (hRf : RfRun s m p ng false false n true) (hm0 : 0 < m) (hm : m < 144115188075855872)
    (M : Nat) (k : Int) (hM0 : 0 < M) (hM1 : M < 9007199254740992) (hk : -1074 ≤ k) (hk1 : k ≤ 971) (hn : 4503599627370496 ≤ M ∨ k = -1074)
    (hfin : (k + 1074).toNat * 4503599627370496 + M < FloatKind.f64.format.infRung) (hR : Rounds ((m : Rat) * (10 : Rat) ^ p * (2 : Rat) ^ (-k)) M) (hl : (M : Int) = 4503599627370496 → -1074 < k → 4 * (((M : Nat) : Int) : Rat) - 1 ≤ 4 * ((m : Rat) * (10 : Rat) ^ p * (2 : Rat) ^ (-k)))
    (w : World) (hw : PW w) : Calls Tryz.prog 218 #[.string s] w (AtPost w (FloatKind.f64.format.word ng ((k + 1074).toNat * 4503599627370496 + M)) n 0) := by
  have hlo := half_least _ _ k (-1074) (by omega) hk hR
  have hhi := not_past _ M k 9007199254740992 53 1025 (by omega) (by decide +kernel) (by omega) hR
  obtain ⟨p0, p1⟩ := p_range m hm0 hm p (-1074 - 1) 1025 (-345) 310 hlo hhi (by decide +kernel) (by decide +kernel)
  have hm0' : (0 : Int) < (m : Int) := by omega
  have hPf : PfRun m p (sgn ng) (FloatKind.f64.format.word ng ((k + 1074).toNat * 4503599627370496 + M)) false := by
    rw [sgn_sgW]
    exact fun w hp hw => pf64_word m hm0 hm p p0 p1 ng M k hM0 hM1 hk hn hfin hR hl w hp hw
  cases hdv : ((m : Int) / 4503599627370496 == 0) with
  | false =>
    have h := at_parse s hs f0 n0 hSp m p ng false false n hRf hm0' p0 p1 0 false (fun w h => exact_big m p ng (by omega) (by omega) hdv fpTab w h) _ false hPf w hw
    exact h
  | true =>
    obtain ⟨c, hc⟩ : ∃ c : Nat, c = 4831355200913801216 := ⟨_, rfl⟩
    obtain ⟨c', hc'⟩ : ∃ c : Nat, c = 14054727237768577024 := ⟨_, rfl⟩
    have hnum : ∀ j : Nat, (j : Int) ≤ 22 → Num FloatKind.f64.format (fpTab j) false ((10 : Rat) ^ (j : Int)) := fun j hj => by
      rw [← ten_nat]
      exact num_of (fp64_num j (by omega))
    obtain ⟨f, ok, hT, hEx⟩ := told64 fpTab (fun j hj => notNought_num rfl (hnum j (by omega))) m p ng (by omega) (by omega) hdv c c' hc hc'
    cases ok with
    | false => exact at_parse s hs f0 n0 hSp m p ng false false n hRf hm0' p0 p1 f false hEx _ false hPf w hw
    | true =>
      have hdv' : (m : Int) / 4503599627370496 = 0 := by rw [← beq_iff_eq]; exact hdv
      have hfe := ex_back fmt64 fpTab 22 37 c c' 1000000000000000 (by decide) (by decide) hnum (by rw [hc]; exact num_of c64_num.1) (by rw [hc']; exact num_of c64_num.2) (by decide +kernel) ng m (by omega) (by omega) p f (hT rfl) M k (by omega) (by omega) hk (by omega) hR hl
      have e1 : k - -1074 = k + 1074 := by omega
      rw [e1, Int.toNat_natCast, Nat.min_eq_left (Nat.le_of_lt hfin)] at hfe
      rw [← hfe]
      exact at_exact s hs f0 n0 hSp m p ng false false n hRf hm0' p0 p1 f true hEx w hw
end Go.Proofs.YtnggkkdcddpjlaaGreatDoor
