/- Words of a format as numbers; whole numbers, products and quotients. Values past the whole numbers of a format. The exact way of reading a float: a product or a quotient of two exact floats is the float to which the text rounds. -/
import Derived.Test.YtnggkkdcddpjlaaGreatDoorZ14
namespace Go.Proofs.YtnggkkdcddpjlaaGreatDoor
set_option linter.unusedVariables false
set_option maxRecDepth 100000
open Ieee
/-- What is used of the two formats. -/
structure Fmt (f : Format) (F B : Nat) (L : Int) : Prop where
  fr : f.fractionBits = F
  bi : f.binade = B
  le : f.leastPlace = L
  pow : B = 2 ^ F
  four : 4 ≤ B
  low : L ≤ -(F : Int) - 60
  top : (-L).toNat * B + 2 * B < f.infRung
  sw : f.infRung < f.signWeight
theorem fmt64 : Fmt FloatKind.f64.format 52 4503599627370496 (-1074) := by constructor <;> decide
theorem fmt32 : Fmt FloatKind.f32.format 23 8388608 (-149) := by constructor <;> decide
theorem read_word {f : Format} {F B : Nat} {L : Int} (hf : Fmt f F B L) (ng : Bool) (M k : Int) (hM0 : 0 ≤ M) (hM1 : M < 2 * B) (hk : L ≤ k) (hn : (B : Int) ≤ M ∨ k = L) (hI : (k - L).toNat * B + M.toNat < f.infRung) :
    f.read (f.word ng ((k - L).toNat * B + M.toNat)) = .number ng M.toNat k := by
  have hsw := hf.sw
  have hB0 : 0 < B := by have := hf.four; omega
  unfold Format.read Format.word
  rw [hf.bi, hf.le]
  generalize f.signWeight = S at *
  generalize f.infRung = I at *
  obtain ⟨r, hr⟩ : ∃ r, r = (k - L).toNat * B + M.toNat := ⟨_, rfl⟩
  rw [← hr] at hI ⊢
  have e1 : (if ng = true then S + r else r) % S = r := by
    cases ng
    · simp only [Bool.false_eq_true, if_false]
      exact Nat.mod_eq_of_lt (by omega)
    · simp only [if_true]
      rw [Nat.add_mod_left]
      exact Nat.mod_eq_of_lt (by omega)
  have e2 : ((if ng = true then S + r else r) / S % 2 == 1) = ng := by
    cases ng
    · simp only [Bool.false_eq_true, if_false]
      rw [Nat.div_eq_of_lt (by omega)]
      rfl
    · simp only [if_true]
      rw [Nat.add_div_left _ (by omega), Nat.div_eq_of_lt (by omega)]
      rfl
  dsimp only
  rw [e1, e2]
  by_cases hMB : (B : Int) ≤ M
  · have hj : r = ((k - L).toNat + 1) * B + (M.toNat - B) := by
      rw [hr, Nat.add_mul]
      omega
    have h1 : ¬ r < B := by
      rw [hj, Nat.add_mul]
      omega
    have h2 : r % B = M.toNat - B := by
      rw [hj, Nat.mul_comm, Nat.mul_add_mod]
      exact Nat.mod_eq_of_lt (by omega)
    have h3 : r / B = (k - L).toNat + 1 := by
      rw [hj, Nat.mul_comm, Nat.mul_add_div hB0, Nat.div_eq_of_lt (show M.toNat - B < B by omega)]
    rw [if_neg h1, if_pos hI, h2, h3]
    have g1 : B + (M.toNat - B) = M.toNat := by omega
    have g2 : L + (((k - L).toNat + 1 - 1 : Nat) : Int) = k := by omega
    rw [g1, g2]
  · have hkl : k = L := by omega
    have hj : r = M.toNat := by
      rw [hr, hkl]
      simp
    have h1 : r < B := by omega
    rw [if_pos h1, hj, hkl]
/-- A word that stands for the number V, which is not nought. -/
def Num (f : Format) (x : Nat) (s : Bool) (V : Rat) : Prop := ∃ m e, f.read x = .number s m e ∧ m ≠ 0 ∧ (m : Rat) * (2 : Rat) ^ e = V
/-- A rung's own number rounds to it. -/
theorem near_exact {f : Format} {F B : Nat} {L : Int} (hf : Fmt f F B L) (ng : Bool) (m : Nat) (hm0 : m ≠ 0) (hm : m < 2 * B) (p : Int) (hp : L + F ≤ p) :
    f.nearest ng m p = f.word ng (min ((p + m.log2 - F - L).toNat * B + m * 2 ^ (F - m.log2)) f.infRung) := by
  have hlg : m.log2 < F + 1 := (Nat.log2_lt hm0).2 (by rw [Nat.pow_succ, ← hf.pow]; omega)
  have h1 : 2 ^ m.log2 ≤ m := Nat.log2_self_le hm0
  have h2 : m < 2 ^ (m.log2 + 1) := Nat.lt_log2_self
  have p1 : 2 ^ m.log2 * 2 ^ (F - m.log2) = B := by
    rw [← Nat.pow_add, hf.pow]
    congr 1
    omega
  have g1 : B ≤ m * 2 ^ (F - m.log2) := by
    rw [← p1]
    exact Nat.mul_le_mul_right _ h1
  have g2 : m * 2 ^ (F - m.log2) < 2 * B := by
    have : m * 2 ^ (F - m.log2) < 2 ^ (m.log2 + 1) * 2 ^ (F - m.log2) := Nat.mul_lt_mul_of_pos_right h2 (Nat.two_pow_pos _)
    rw [Nat.pow_succ, Nat.mul_comm (2 ^ m.log2) 2, Nat.mul_assoc, p1] at this
    exact this
  have e : (m : Rat) * (2 : Rat) ^ (p - (p + m.log2 - F)) = ((((m * 2 ^ (F - m.log2) : Nat) : Int)) : Rat) := by
    have : p - (p + (m.log2 : Int) - (F : Int)) = ((F - m.log2 : Nat) : Int) := by omega
    rw [this, Rat.intCast_natCast, Rat.natCast_mul, two_cast]
  have h := near_rung f ng m p m B ((m * 2 ^ (F - m.log2) : Nat) : Int) (p + m.log2 - F) L hm0 (Or.inl rfl) hf.bi hf.le hf.four (by omega) (by omega) (by omega) (Or.inl (by omega))
    (by rw [e]; unfold Rounds; split <;> constructor <;> grind) (fun _ _ => by rw [e]; grind)
  rw [h]
  congr 2
theorem num_near {f : Format} {F B : Nat} {L : Int} (hf : Fmt f F B L) (ng : Bool) (m : Nat) (hm0 : m ≠ 0) (hm : m < 2 * B) : Num f (f.nearest ng m 0) ng m ∧ f.nearest ng m 0 = f.word ng ((m.log2 - F - L).toNat * B + m * 2 ^ (F - m.log2)) := by
  have hlg : m.log2 < F + 1 := (Nat.log2_lt hm0).2 (by rw [Nat.pow_succ, ← hf.pow]; omega)
  have h1 : 2 ^ m.log2 ≤ m := Nat.log2_self_le hm0
  have h2 : m < 2 ^ (m.log2 + 1) := Nat.lt_log2_self
  have p1 : 2 ^ m.log2 * 2 ^ (F - m.log2) = B := by
    rw [← Nat.pow_add, hf.pow]
    congr 1
    omega
  have g1 : B ≤ m * 2 ^ (F - m.log2) := by
    rw [← p1]
    exact Nat.mul_le_mul_right _ h1
  have g2 : m * 2 ^ (F - m.log2) < 2 * B := by
    have : m * 2 ^ (F - m.log2) < 2 ^ (m.log2 + 1) * 2 ^ (F - m.log2) := Nat.mul_lt_mul_of_pos_right h2 (Nat.two_pow_pos _)
    rw [Nat.pow_succ, Nat.mul_comm (2 ^ m.log2) 2, Nat.mul_assoc, p1] at this
    exact this
  have hlow := hf.low
  have h := near_exact hf ng m hm0 hm 0 (by omega)
  have e0 : (0 + (m.log2 : Int) - (F : Int) - L) = (m.log2 : Int) - F - L := by omega
  rw [e0] at h
  have hj : ((m.log2 : Int) - F - L).toNat ≤ (-L).toNat := by omega
  have hlt : ((m.log2 : Int) - F - L).toNat * B + m * 2 ^ (F - m.log2) < f.infRung := by
    have := Nat.mul_le_mul_right B hj
    have := hf.top
    omega
  rw [Nat.min_eq_left (Nat.le_of_lt hlt)] at h
  refine ⟨?_, h⟩
  have hr := read_word hf ng ((m * 2 ^ (F - m.log2) : Nat) : Int) (m.log2 - F) (by omega) (by omega) (by omega) (Or.inl (by omega)) (by rw [Int.toNat_natCast]; exact hlt)
  rw [Int.toNat_natCast, ← h] at hr
  refine ⟨_, _, hr, by omega, ?_⟩
  rw [Rat.natCast_mul, two_cast, Rat.mul_assoc, ← two_add]
  have : ((F - m.log2 : Nat) : Int) + ((m.log2 : Int) - F) = 0 := by omega
  rw [this]
  have : (2 : Rat) ^ (0 : Int) = 1 := by decide
  rw [this, Rat.mul_one]
theorem mul_num {f : Format} {x y : Nat} {s t : Bool} {V W : Rat} (hx : Num f x s V) (hy : Num f y t W) : ∃ m e, m ≠ 0 ∧ f.mul x y = some (f.nearest (s ^^ t) m e) ∧ (m : Rat) * (2 : Rat) ^ e = V * W := by
  obtain ⟨m, i, h1, h2, h3⟩ := hx
  obtain ⟨n, j, g1, g2, g3⟩ := hy
  refine ⟨m * n, i + j, Nat.mul_ne_zero h2 g2, ?_, ?_⟩
  · unfold Format.mul
    rw [h1, g1]
    rfl
  · rw [Rat.natCast_mul, two_add, ← h3, ← g3]
    grind
theorem div_num {f : Format} {F B : Nat} {L : Int} (hf : Fmt f F B L) {x y : Nat} {s t : Bool} {V W : Rat} (hx : Num f x s V) (hy : Num f y t W) : ∃ (m : Nat) (e : Int) (X : Rat), m ≠ 0 ∧ Stands F m X ∧ f.div x y = some (f.nearest (s ^^ t) m e) ∧ X * (2 : Rat) ^ e = V / W := by
  obtain ⟨m, i, h1, h2, h3⟩ := hx
  obtain ⟨n, j, g1, g2, g3⟩ := hy
  obtain ⟨more, hmore⟩ : ∃ more, more = F + 2 + n.log2 - m.log2 := ⟨_, rfl⟩
  obtain ⟨D, hD⟩ : ∃ D, D = m <<< more := ⟨_, rfl⟩
  have hn0 : 0 < n := Nat.pos_of_ne_zero g2
  have hDl : 2 ^ (F + 2 + n.log2) ≤ D := by
    rw [hD, Nat.shiftLeft_eq]
    have a1 : 2 ^ m.log2 * 2 ^ more ≤ m * 2 ^ more := Nat.mul_le_mul_right _ (Nat.log2_self_le h2)
    rw [← Nat.pow_add] at a1
    have a2 : 2 ^ (F + 2 + n.log2) ≤ 2 ^ (m.log2 + more) := Nat.pow_le_pow_right (by decide) (by omega)
    omega
  have hq : 2 ^ (F + 1) ≤ D / n := by
    rw [Nat.le_div_iff_mul_le hn0]
    have a1 : n < 2 ^ (n.log2 + 1) := Nat.lt_log2_self
    have a2 : 2 ^ (F + 1) * n ≤ 2 ^ (F + 1) * 2 ^ (n.log2 + 1) := Nat.mul_le_mul_left _ (Nat.le_of_lt a1)
    rw [← Nat.pow_add] at a2
    have a3 : F + 1 + (n.log2 + 1) = F + 2 + n.log2 := by omega
    rw [a3] at a2
    omega
  have hdm := Nat.div_add_mod D n
  have hlt := Nat.mod_lt D hn0
  have hq2 : 2 ^ (F + 2) ≤ 2 * (D / n) + (D % n != 0).toNat := by
    rw [Nat.pow_succ]
    omega
  have hne : 2 * (D / n) + (D % n != 0).toNat ≠ 0 := by
    have := Nat.two_pow_pos (F + 2)
    omega
  have nr : (0 : Rat) < (n : Rat) := by
    have : ((0 : Nat) : Rat) < (n : Rat) := Rat.natCast_lt_natCast.2 hn0
    exact this
  have nr0 : (n : Rat) ≠ 0 := by grind
  refine ⟨2 * (D / n) + (D % n != 0).toNat, i - j - more - 1, 2 * (D : Rat) / (n : Rat), hne, ?_, ?_, ?_⟩
  · right
    refine ⟨fun d => ?_, (Nat.le_log2 hne).2 hq2⟩
    have X1 : ∀ a : Rat, 2 * (D : Rat) / (n : Rat) ≤ a ↔ 2 * (D : Rat) ≤ a * (n : Rat) := fun a => by
      have e : 2 * (D : Rat) / (n : Rat) * (n : Rat) = 2 * (D : Rat) := Rat.div_mul_cancel nr0
      constructor
      · intro hh
        have := Rat.mul_le_mul_of_nonneg_right hh (Rat.le_of_lt nr)
        rw [e] at this
        exact this
      · intro hh
        rw [← e] at hh
        exact Rat.le_of_mul_le_mul_right hh nr
    have X2 : ∀ a : Rat, a ≤ 2 * (D : Rat) / (n : Rat) ↔ a * (n : Rat) ≤ 2 * (D : Rat) := fun a => by
      have e : 2 * (D : Rat) / (n : Rat) * (n : Rat) = 2 * (D : Rat) := Rat.div_mul_cancel nr0
      constructor
      · intro hh
        have := Rat.mul_le_mul_of_nonneg_right hh (Rat.le_of_lt nr)
        rw [e] at this
        exact this
      · intro hh
        rw [← e] at hh
        exact Rat.le_of_mul_le_mul_right hh nr
    rw [X1, X2]
    have e1 : ((2 * d : Int) : Rat) * (n : Rat) = ((2 * (d * n) : Int) : Rat) := by
      rw [Rat.intCast_mul, Rat.intCast_mul 2, Rat.intCast_mul d, Rat.intCast_natCast, Rat.mul_assoc]
    have e2 : 2 * (D : Rat) = ((2 * (D : Int) : Int) : Rat) := by rw [Rat.intCast_mul, Rat.intCast_natCast]; rfl
    rw [e1, e2, Rat.intCast_le_intCast, Rat.intCast_le_intCast]
    have hdm2 : (n : Int) * ((D / n : Nat) : Int) + ((D % n : Nat) : Int) = D := by rw [← Int.natCast_mul, ← Int.natCast_add, hdm]
    clear hD hDl hdm hq hne hq2 X1 X2 e1 e2
    generalize D / n = Q at *
    generalize D % n = R at *
    -- compare d*n with n*Q + R
    have hc : (d ≤ Q → d * n ≤ (n : Int) * Q) ∧ (Q + 1 ≤ d → (n : Int) * Q + n ≤ d * n) := by
      constructor
      · intro hh
        rw [Int.mul_comm (n : Int)]
        exact Int.mul_le_mul_of_nonneg_right hh (by omega)
      · intro hh
        have := Int.mul_le_mul_of_nonneg_right hh (show (0 : Int) ≤ n by omega)
        rw [Int.add_mul, Int.one_mul, Int.mul_comm (Q : Int)] at this
        exact this
    have heq : d = Q → d * n = (n : Int) * Q := fun hh => by rw [hh, Int.mul_comm]
    have hlt2 : d + 1 ≤ Q → d * n + n ≤ (n : Int) * Q := fun hh => by
      have := Int.mul_le_mul_of_nonneg_right hh (show (0 : Int) ≤ n by omega)
      rw [Int.add_mul, Int.one_mul, Int.mul_comm (Q : Int)] at this
      exact this
    obtain ⟨c1, c2⟩ := hc
    generalize d * (n : Int) = dn at *
    generalize (n : Int) * (Q : Int) = nq at *
    cases hb : (R != 0) with
    | true =>
      have hb : R ≠ 0 := by simpa using hb
      simp only [Bool.toNat_true]
      constructor <;> constructor <;> intro hh <;> omega
    | false =>
      have hb : R = 0 := by simpa using hb
      simp only [Bool.toNat_false]
      constructor <;> constructor <;> intro hh <;> omega
  · unfold Format.div
    rw [h1, g1, hf.fr]
    simp only [Datum.quotient, if_neg g2, Option.map_some]
    rw [← hmore, ← hD]
    rfl
  · rw [← h3, ← g3, hD, Nat.shiftLeft_eq, Rat.natCast_mul, two_cast]
    have t1 : (2 : Rat) ^ i = (2 : Rat) ^ (i - j - more - 1) * (2 : Rat) ^ (more : Int) * (2 : Rat) ^ j * 2 := by
      have e1 : (2 : Rat) ^ (1 : Int) = 2 := by decide
      rw [← two_add, ← two_add]
      conv => rhs; rhs; rw [← e1]
      rw [← two_add]
      congr 1
      omega
    have p := two_gt j
    have p0 : (2 : Rat) ^ j ≠ 0 := by grind
    rw [t1]
    generalize (2 : Rat) ^ (i - j - more - 1) = a at *
    generalize (2 : Rat) ^ (more : Int) = b at *
    generalize (2 : Rat) ^ j = c at *
    have e : 2 * ((m : Rat) * b) / (n : Rat) * a * ((n : Rat) * c) = (m : Rat) * (a * b * c * 2) := by
      have : 2 * ((m : Rat) * b) / (n : Rat) * (n : Rat) = 2 * ((m : Rat) * b) := Rat.div_mul_cancel nr0
      have e2 : 2 * ((m : Rat) * b) / (n : Rat) * a * ((n : Rat) * c) = 2 * ((m : Rat) * b) / (n : Rat) * (n : Rat) * a * c := by grind
      rw [e2, this]
      grind
    have hnz : (n : Rat) * c ≠ 0 := fun hh => by
      have := Rat.mul_pos nr p
      grind
    rw [← e, Rat.mul_div_cancel hnz]
end Go.Proofs.YtnggkkdcddpjlaaGreatDoor
namespace Go.Proofs.YtnggkkdcddpjlaaGreatDoor
set_option linter.unusedVariables false
set_option maxRecDepth 100000
open Ieee
/-- What a nearest word is hangs on the value alone (a whole number that the format has). -/
theorem near_whole {f : Format} {F B : Nat} {L : Int} (hf : Fmt f F B L) (ng : Bool) (m : Nat) (e : Int) (p : Nat) (hm0 : m ≠ 0) (hp0 : p ≠ 0) (hp : p < 2 * B) (hv : (m : Rat) * (2 : Rat) ^ e = p) : f.nearest ng m e = f.nearest ng p 0 := by
  obtain ⟨_, h2⟩ := num_near hf ng p hp0 hp
  have hlg : p.log2 < F + 1 := (Nat.log2_lt hp0).2 (by rw [Nat.pow_succ, ← hf.pow]; omega)
  have h1 : 2 ^ p.log2 ≤ p := Nat.log2_self_le hp0
  have h3 : p < 2 ^ (p.log2 + 1) := Nat.lt_log2_self
  have p1 : 2 ^ p.log2 * 2 ^ (F - p.log2) = B := by
    rw [← Nat.pow_add, hf.pow]
    congr 1
    omega
  have g1 : B ≤ p * 2 ^ (F - p.log2) := by
    rw [← p1]
    exact Nat.mul_le_mul_right _ h1
  have g2 : p * 2 ^ (F - p.log2) < 2 * B := by
    have : p * 2 ^ (F - p.log2) < 2 ^ (p.log2 + 1) * 2 ^ (F - p.log2) := Nat.mul_lt_mul_of_pos_right h3 (Nat.two_pow_pos _)
    rw [Nat.pow_succ, Nat.mul_comm (2 ^ p.log2) 2, Nat.mul_assoc, p1] at this
    exact this
  have hlow := hf.low
  have e1 : (m : Rat) * (2 : Rat) ^ (e - (p.log2 - F)) = ((((p * 2 ^ (F - p.log2) : Nat) : Int)) : Rat) := by
    have : e - ((p.log2 : Int) - (F : Int)) = e + ((F - p.log2 : Nat) : Int) := by omega
    rw [this, two_add, ← Rat.mul_assoc, hv, Rat.intCast_natCast, Rat.natCast_mul, two_cast]
  have h := near_rung f ng m e m B ((p * 2 ^ (F - p.log2) : Nat) : Int) (p.log2 - F) L hm0 (Or.inl rfl) hf.bi hf.le hf.four (by omega) (by omega) (by omega) (Or.inl (by omega))
    (by rw [e1]; unfold Rounds; split <;> constructor <;> grind) (fun _ _ => by rw [e1]; grind)
  have hj : ((p.log2 : Int) - F - L).toNat ≤ (-L).toNat := by omega
  have hlt : ((p.log2 : Int) - F - L).toNat * B + p * 2 ^ (F - p.log2) < f.infRung := by
    have := Nat.mul_le_mul_right B hj
    have := hf.top
    omega
  rw [h, h2, Int.toNat_natCast, Nat.min_eq_left (Nat.le_of_lt hlt)]
/-- A value past the whole numbers of the format keeps its size. -/
theorem near_big {f : Format} {F B : Nat} {L : Int} (hf : Fmt f F B L) (ng : Bool) (m : Nat) (e : Int) (hm0 : m ≠ 0) (hv : 2 * (B : Rat) ≤ (m : Rat) * (2 : Rat) ^ e) :
    f.read (f.nearest ng m e) = .infinity ng ∨ ∃ n j, f.read (f.nearest ng m e) = .number ng n j ∧ n ≠ 0 ∧ 2 * (B : Rat) ≤ (n : Rat) * (2 : Rat) ^ j := by
  obtain ⟨x1, x2⟩ := stands_in (F := F) (X := (m : Rat)) (Or.inl rfl) hm0
  have hlow := hf.low
  have hBr : (2 : Rat) ^ (F : Int) = (B : Rat) := by rw [hf.pow]; exact (two_cast _).symm
  have e1 : (2 : Rat) ^ (1 : Int) = 2 := by decide
  have hpl : (F : Int) + 1 ≤ e + m.log2 := by
    refine Decidable.byContradiction fun hc => ?_
    have p := two_gt e
    have h1 := Rat.mul_lt_mul_of_pos_right x2 p
    rw [← two_add] at h1
    have h2 := two_mono ((F : Int) + 1) ((m.log2 : Int) + 1 + e) (by omega)
    rw [two_add (F : Int) 1, hBr, e1] at h2
    generalize (2 : Rat) ^ ((m.log2 : Int) + 1 + e) = z at *
    grind
  have hsw := hf.sw
  have hB4 := hf.four
  have hrd : ∀ r, r = f.infRung → f.read (f.word ng r) = .infinity ng := fun r hr => by
    have htop := hf.top
    unfold Format.read Format.word
    rw [hf.bi, hr]
    generalize f.signWeight = S at *
    generalize f.infRung = I at *
    have q1 : (if ng = true then S + I else I) % S = I := by
      cases ng
      · simp only [Bool.false_eq_true, if_false]
        exact Nat.mod_eq_of_lt (by omega)
      · simp only [if_true]
        rw [Nat.add_mod_left]
        exact Nat.mod_eq_of_lt (by omega)
    have q2 : ((if ng = true then S + I else I) / S % 2 == 1) = ng := by
      cases ng
      · simp only [Bool.false_eq_true, if_false]
        rw [Nat.div_eq_of_lt (by omega)]
        rfl
      · simp only [if_true]
        rw [Nat.add_div_left _ (by omega), Nat.div_eq_of_lt (by omega)]
        rfl
    dsimp only
    rw [q1, q2, if_neg (by omega), if_neg (by omega), if_pos rfl]
  have fin : ∀ M k : Int, (B : Int) ≤ M → M < 2 * B → 1 ≤ k → f.read (f.word ng (min ((k - L).toNat * B + M.toNat) f.infRung)) = .infinity ng ∨ ∃ n j, f.read (f.word ng (min ((k - L).toNat * B + M.toNat) f.infRung)) = .number ng n j ∧ n ≠ 0 ∧ 2 * (B : Rat) ≤ (n : Rat) * (2 : Rat) ^ j := by
    intro M k hM0 hM1 hk
    by_cases hI : (k - L).toNat * B + M.toNat < f.infRung
    · right
      rw [Nat.min_eq_left (Nat.le_of_lt hI)]
      refine ⟨_, _, read_word hf ng M k (by omega) hM1 (by omega) (Or.inl hM0) hI, by omega, ?_⟩
      have a1 : (B : Rat) ≤ (M.toNat : Rat) := Rat.natCast_le_natCast.2 (by omega)
      have a2 := two_mono k 1 hk
      rw [e1] at a2
      have a3 : (B : Rat) * 2 ≤ (M.toNat : Rat) * 2 := Rat.mul_le_mul_of_nonneg_right a1 (by decide)
      have a4 : (0 : Rat) ≤ (M.toNat : Rat) := by
        have : ((0 : Nat) : Rat) ≤ (M.toNat : Rat) := Rat.natCast_le_natCast.2 (Nat.zero_le _)
        exact this
      have a5 := Rat.mul_le_mul_of_nonneg_left a2 a4
      grind
    · left
      exact hrd _ (by omega)
  unfold Format.nearest
  rw [if_neg hm0, hf.le, hf.fr, hf.bi]
  dsimp only
  obtain ⟨last, hlast⟩ : ∃ last, last = max (e + (m.log2 : Int) - (F : Int)) L := ⟨_, rfl⟩
  rw [← hlast]
  have hkept : Rounds ((m : Rat) * (2 : Rat) ^ (e - last)) (Toward.even.cut ng (m <<< (e - last).toNat) (last - e).toNat : Nat) := by
    rcases (by omega : last ≤ e ∨ e < last) with h | h
    · have e1 : (last - e).toNat = 0 := by omega
      rw [e1, cut_zero]
      obtain ⟨a, ha⟩ : ∃ a, a = (e - last).toNat := ⟨_, rfl⟩
      have e2 : (m : Rat) * (2 : Rat) ^ (e - last) = (((m <<< a : Nat) : Int) : Rat) := by
        have : e - last = (a : Int) := by omega
        rw [this, Nat.shiftLeft_eq, Rat.intCast_natCast, Rat.natCast_mul, two_cast]
      rw [← ha, e2]
      unfold Rounds
      split <;> constructor <;> grind
    · have e1 : (e - last).toNat = 0 := by omega
      obtain ⟨a, ha⟩ : ∃ a, a = (last - e).toNat := ⟨_, rfl⟩
      have e2 : (m : Rat) * (2 : Rat) ^ (e - last) = (m : Rat) / (2 : Rat) ^ a := by
        have : e - last = -(a : Int) := by omega
        rw [this, Rat.zpow_neg, Rat.zpow_natCast, Rat.div_def]
      rw [e1, ← ha, Nat.shiftLeft_zero, e2]
      exact cut_rounds ng m a m (Or.inl rfl)
  have hz1 : (B : Rat) ≤ (m : Rat) * (2 : Rat) ^ (e - last) := by
    have p := two_gt (e - last)
    have h1 := Rat.mul_le_mul_of_nonneg_right x1 (Rat.le_of_lt p)
    rw [← two_add] at h1
    have h2 : (m.log2 : Int) + (e - last) = (F : Int) := by omega
    rw [h2, hBr] at h1
    exact h1
  have hz2 : (m : Rat) * (2 : Rat) ^ (e - last) < 2 * (B : Rat) := by
    have p := two_gt (e - last)
    have h1 := Rat.mul_lt_mul_of_pos_right x2 p
    rw [← two_add] at h1
    have h2 : (m.log2 : Int) + 1 + (e - last) = (F : Int) + 1 := by omega
    rw [h2, two_add, hBr, e1] at h1
    grind
  generalize (m : Rat) * (2 : Rat) ^ (e - last) = Z at *
  generalize Toward.even.cut ng (m <<< (e - last).toNat) (last - e).toNat = K at hkept ⊢
  have k1 : B ≤ K := by
    refine Decidable.byContradiction fun hc => ?_
    have : ((K + 1 : Nat) : Rat) ≤ (B : Rat) := Rat.natCast_le_natCast.2 (by omega)
    rw [Rat.natCast_add] at this
    have e : ((1 : Nat) : Rat) = 1 := rfl
    rw [e] at this
    unfold Rounds at hkept
    rw [Rat.intCast_natCast] at hkept
    split at hkept <;> grind
  have k2 : K ≤ 2 * B := by
    refine Decidable.byContradiction fun hc => ?_
    have : ((2 * B + 1 : Nat) : Rat) ≤ (K : Rat) := Rat.natCast_le_natCast.2 (by omega)
    rw [Rat.natCast_add, Rat.natCast_mul] at this
    have e : ((1 : Nat) : Rat) = 1 := rfl
    have e2 : ((2 : Nat) : Rat) = 2 := rfl
    rw [e, e2] at this
    unfold Rounds at hkept
    rw [Rat.intCast_natCast] at hkept
    split at hkept <;> grind
  rcases (by omega : K < 2 * B ∨ K = 2 * B) with h | h
  · have := fin K last (by omega) (by omega) (by omega)
    rw [Int.toNat_natCast] at this
    exact this
  · have := fin B (last + 1) (by omega) (by omega) (by omega)
    rw [Int.toNat_natCast] at this
    have e2 : (last + 1 - L).toNat = (last - L).toNat + 1 := by omega
    rw [e2, Nat.add_mul] at this
    rw [h]
    have e3 : (last - L).toNat * B + 1 * B + B = (last - L).toNat * B + 2 * B := by omega
    rw [e3] at this
    exact this
theorem order_nums {f : Format} {x y : Nat} {s : Bool} {m n : Nat} {i j : Int} (hx : f.read x = .number s m i) (hy : f.read y = .number s n j) (h : (n : Rat) * (2 : Rat) ^ j < (m : Rat) * (2 : Rat) ^ i) : f.order x y = some (if s then .lt else .gt) := by
  unfold Format.order
  rw [hx, hy]
  show some (compare (signed s m (i - min i j).toNat) (signed s n (j - min i j).toNat)) = _
  have key : n <<< (j - min i j).toNat < m <<< (i - min i j).toNat := by
    rw [Nat.shiftLeft_eq, Nat.shiftLeft_eq]
    refine Rat.natCast_lt_natCast.1 ?_
    rw [Rat.natCast_mul, Rat.natCast_mul, two_cast, two_cast]
    have p := two_gt (min i j)
    refine Rat.lt_of_mul_lt_mul_right ?_ (Rat.le_of_lt p)
    rw [Rat.mul_assoc, Rat.mul_assoc, ← two_add, ← two_add]
    have e1 : (((j - min i j).toNat : Nat) : Int) + min i j = j := by omega
    have e2 : (((i - min i j).toNat : Nat) : Int) + min i j = i := by omega
    rw [e1, e2]
    exact h
  unfold signed
  generalize n <<< (j - min i j).toNat = a at *
  generalize m <<< (i - min i j).toNat = b at *
  cases s with
  | false =>
    simp only [Bool.false_eq_true, if_false]
    rw [Int.compare_eq_gt.2 (by omega)]
  | true =>
    simp only [if_true]
    rw [Int.compare_eq_lt.2 (by omega)]
theorem order_inf {f : Format} {x y : Nat} {s : Bool} {n : Nat} {j : Int} (hx : f.read x = .infinity s) (hy : f.read y = .number s n j) : f.order x y = some (if s then .lt else .gt) := by
  unfold Format.order
  rw [hx, hy]
  rfl
/-- A product past the whole numbers of the format is told as too great. -/
theorem big_order {f : Format} {F B : Nat} {L : Int} (hf : Fmt f F B L) (ng : Bool) (m : Nat) (e : Int) (hm0 : m ≠ 0) (hv : 2 * (B : Rat) ≤ (m : Rat) * (2 : Rat) ^ e) (y : Nat) (C : Rat) (hy : Num f y ng C) (hC : C < 2 * (B : Rat)) :
    f.order (f.nearest ng m e) y = some (if ng then .lt else .gt) := by
  obtain ⟨n, j, h1, h2, h3⟩ := hy
  rcases near_big hf ng m e hm0 hv with h | ⟨n2, j2, g1, g2, g3⟩
  · exact order_inf h h1
  · exact order_nums g1 h1 (by grind)
end Go.Proofs.YtnggkkdcddpjlaaGreatDoor
namespace Go.Proofs.YtnggkkdcddpjlaaGreatDoor
set_option linter.unusedVariables false
set_option maxRecDepth 100000
open Ieee
theorem xor_top (n r : Nat) (h : r < 2 ^ n) : r ^^^ 2 ^ n = 2 ^ n + r := by
  have h1 : 2 ^ n + r = 2 ^ n ||| r := by
    have := Nat.two_pow_add_eq_or_of_lt h 1
    rw [Nat.mul_one] at this
    exact this
  rw [h1]
  refine Nat.eq_of_testBit_eq fun i => ?_
  rw [Nat.testBit_xor, Nat.testBit_or, Nat.testBit_two_pow]
  by_cases hi : n = i
  · subst hi
    rw [Nat.testBit_lt_two_pow h]
    simp
  · simp [hi]
theorem neg_word {κ : FloatKind} {F B : Nat} {L : Int} (hf : Fmt κ.format F B L) (r : Nat) (h : r < κ.format.infRung) : Op.negFloat κ (κ.format.word false r) = κ.format.word true r := by
  have := hf.sw
  unfold Op.negFloat Format.word
  simp only [Bool.false_eq_true, if_false, if_true]
  exact xor_top _ _ (by unfold Format.signWeight at this; omega)
/-- The float of a whole number, with its sign. -/
def sgnInt (κ : FloatKind) (ng : Bool) (m : Int) : Nat := if ng = true then Op.negFloat κ (floatOfInt κ m) else floatOfInt κ m
theorem sgn_int {κ : FloatKind} {F B : Nat} {L : Int} (hf : Fmt κ.format F B L) (ng : Bool) (m : Nat) (hm0 : m ≠ 0) (hm : m < 2 * B) : sgnInt κ ng m = κ.format.nearest ng m 0 := by
  have h0 : floatOfInt κ m = κ.format.nearest false m 0 := by
    unfold floatOfInt FloatKind.nearest FloatKind.encode Format.write
    have : decide ((m : Int) < 0) = false := by simp
    rw [this, Int.natAbs_natCast]
  obtain ⟨_, h1⟩ := num_near hf false m hm0 hm
  obtain ⟨_, h2⟩ := num_near hf true m hm0 hm
  unfold sgnInt
  cases ng with
  | false => simpa using h0
  | true =>
    simp only [if_true]
    rw [h0, h1, h2, neg_word hf]
    have hlg : m.log2 < F + 1 := (Nat.log2_lt hm0).2 (by rw [Nat.pow_succ, ← hf.pow]; omega)
    have h2 : m < 2 ^ (m.log2 + 1) := Nat.lt_log2_self
    have p1 : 2 ^ m.log2 * 2 ^ (F - m.log2) = B := by
      rw [← Nat.pow_add, hf.pow]
      congr 1
      omega
    have g2 : m * 2 ^ (F - m.log2) < 2 * B := by
      have : m * 2 ^ (F - m.log2) < 2 ^ (m.log2 + 1) * 2 ^ (F - m.log2) := Nat.mul_lt_mul_of_pos_right h2 (Nat.two_pow_pos _)
      rw [Nat.pow_succ, Nat.mul_comm (2 ^ m.log2) 2, Nat.mul_assoc, p1] at this
      exact this
    have hlow := hf.low
    have hj : ((m.log2 : Int) - F - L).toNat ≤ (-L).toNat := by omega
    have := Nat.mul_le_mul_right B hj
    have := hf.top
    omega
/-- What the exact way answers, told. -/
def ExTold (κ : FloatKind) (tab : Nat → Nat) (T U : Int) (c c' : Nat) (x : Nat) (e : Int) (r : Nat) : Prop :=
  (e = 0 ∧ r = x) ∨ (∃ k : Nat, e = k ∧ 0 < k ∧ e ≤ T ∧ κ.format.mul x (tab k) = some r) ∨ (∃ k : Nat, e = -(k : Int) ∧ 0 < k ∧ k ≤ T ∧ κ.format.div x (tab k) = some r) ∨
  (∃ (k : Nat) (r1 : Nat), e = T + k ∧ 0 < k ∧ e ≤ U ∧ κ.format.mul x (tab k) = some r1 ∧ (κ.format.order r1 c == some Ordering.gt) = false ∧ (κ.format.order r1 c' == some Ordering.lt) = false ∧ κ.format.mul r1 (tab T.toNat) = some r)
theorem ten_nat (k : Nat) : ((10 ^ k : Nat) : Rat) = (10 : Rat) ^ (k : Int) := by rw [pow_rat, Rat.zpow_natCast]; rfl
/-- The exact way answers the float to which the text rounds. -/
theorem ex_back {κ : FloatKind} {F B : Nat} {L : Int} (hf : Fmt κ.format F B L) (tab : Nat → Nat) (T U : Int) (c c' : Nat) (C : Rat) (hT0 : 0 ≤ T) (hUT : U ≤ 2 * T) (htab : ∀ k : Nat, (k : Int) ≤ T → Num κ.format (tab k) false ((10 : Rat) ^ (k : Int)))
    (hc : Num κ.format c false C) (hc' : Num κ.format c' true C) (hC : C < 2 * (B : Rat))
    (ng : Bool) (m : Nat) (hm0 : m ≠ 0) (hm : m < 2 * B) (e : Int) (r : Nat) (h : ExTold κ tab T U c c' (sgnInt κ ng m) e r)
    (M k : Int) (hM0 : 0 ≤ M) (hM1 : M < 2 * B) (hk : L ≤ k) (hn : (B : Int) ≤ M ∨ k = L) (hR : Rounds ((m : Rat) * (10 : Rat) ^ e * (2 : Rat) ^ (-k)) M) (hl : M = B → L < k → 4 * (M : Rat) - 1 ≤ 4 * ((m : Rat) * (10 : Rat) ^ e * (2 : Rat) ^ (-k))) :
    r = κ.format.word ng (min ((k - L).toNat * B + M.toNat) κ.format.infRung) := by
  have hx0 := sgn_int hf ng m hm0 hm
  have hx : Num κ.format (sgnInt κ ng m) ng m := by rw [hx0]; exact (num_near hf ng m hm0 hm).1
  -- from a nearest word to the end
  have fin : ∀ (mag : Nat) (p : Int) (X : Rat), mag ≠ 0 → Stands F mag X → X * (2 : Rat) ^ p = (m : Rat) * (10 : Rat) ^ e → κ.format.nearest ng mag p = κ.format.word ng (min ((k - L).toNat * B + M.toNat) κ.format.infRung) := fun mag p X h0 hX hV => by
    have hXp : X * (2 : Rat) ^ (p - k) = (m : Rat) * (10 : Rat) ^ e * (2 : Rat) ^ (-k) := by
      have : p - k = p + -k := by omega
      rw [this, two_add, ← Rat.mul_assoc, hV]
    rw [← hXp] at hR hl
    exact near_rung κ.format ng mag p X B M k L h0 (by rw [hf.fr]; exact hX) hf.bi hf.le hf.four hM0 hM1 hk hn hR hl
  rcases h with ⟨he, hr⟩ | ⟨j, he, hj, hjT, hr⟩ | ⟨j, he, hj, hjT, hr⟩ | ⟨j, r1, he, hj, hjU, hr1, ho1, ho2, hr⟩
  · rw [hr, hx0]
    refine fin m 0 m hm0 (Or.inl rfl) ?_
    rw [he]
    have : (2 : Rat) ^ (0 : Int) = 1 := by decide
    have t : (10 : Rat) ^ (0 : Int) = 1 := by decide
    rw [this, t]
  · obtain ⟨mag, p, h0, h1, h2⟩ := mul_num hx (htab j (by omega))
    rw [hr] at h1
    injection h1 with h1
    rw [h1, Bool.xor_false]
    refine fin mag p mag h0 (Or.inl rfl) ?_
    rw [h2, he]
  · obtain ⟨mag, p, X, h0, hX, h1, h2⟩ := div_num hf hx (htab j (by omega))
    rw [hr] at h1
    injection h1 with h1
    rw [h1, Bool.xor_false]
    refine fin mag p X h0 hX ?_
    rw [h2, he, Rat.zpow_neg, Rat.div_def]
  · obtain ⟨mag, p, h0, h1, h2⟩ := mul_num hx (htab j (by omega))
    rw [hr1] at h1
    injection h1 with h1
    rw [Bool.xor_false] at h1
    have hP : (mag : Rat) * (2 : Rat) ^ p = ((m * 10 ^ j : Nat) : Rat) := by rw [h2, Rat.natCast_mul, ten_nat]
    have hp0 : m * 10 ^ j ≠ 0 := Nat.mul_ne_zero hm0 (Nat.pos_iff_ne_zero.1 (Nat.pow_pos (by decide)))
    by_cases hpB : m * 10 ^ j < 2 * B
    · have hr1n : Num κ.format r1 ng ((m * 10 ^ j : Nat) : Rat) := by
        rw [h1, near_whole hf ng mag p (m * 10 ^ j) h0 hp0 hpB hP]
        exact (num_near hf ng _ hp0 hpB).1
      obtain ⟨mag2, p2, g0, g1, g2⟩ := mul_num hr1n (htab T.toNat (by omega))
      rw [hr] at g1
      injection g1 with g1
      rw [g1, Bool.xor_false]
      refine fin mag2 p2 mag2 g0 (Or.inl rfl) ?_
      rw [g2, Rat.natCast_mul, ten_nat, Rat.mul_assoc, ← Rat.zpow_add (by decide), he]
      congr 2
      omega
    · exfalso
      have hbig : 2 * (B : Rat) ≤ (mag : Rat) * (2 : Rat) ^ p := by
        rw [hP]
        have : ((2 * B : Nat) : Rat) ≤ ((m * 10 ^ j : Nat) : Rat) := Rat.natCast_le_natCast.2 (by omega)
        rw [Rat.natCast_mul] at this
        exact this
      cases ng with
      | false =>
        have := big_order hf false mag p h0 hbig c C hc hC
        rw [← h1] at this
        rw [this] at ho1
        exact absurd ho1 (by decide)
      | true =>
        have := big_order hf true mag p h0 hbig c' C hc' hC
        rw [← h1] at this
        rw [this] at ho2
        exact absurd ho2 (by decide)
end Go.Proofs.YtnggkkdcddpjlaaGreatDoor
