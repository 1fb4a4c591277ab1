/- A float64 between -2^61 and 2^61 has its float32. -/
import Derived.Test.YtnggkkdcddpjlaaGreatDoorC8
namespace Go.Proofs.YtnggkkdcddpjlaaGreatDoor
open Go.RowKit Ieee
set_option linter.unusedVariables false
theorem cut_le (neg : Bool) (n drop : Nat) : Toward.even.cut neg n drop ≤ n / (1 <<< min drop (n.log2 + 2)) + 1 := by
  unfold Toward.cut
  dsimp only
  have h : ∀ b : Bool, b.toNat ≤ 1 := fun b => by cases b <;> decide
  have := h (decide ((1 <<< min drop (n.log2 + 2)) < 2 * (n % (1 <<< min drop (n.log2 + 2)))) || ((1 <<< min drop (n.log2 + 2)) == 2 * (n % (1 <<< min drop (n.log2 + 2)))) && n / (1 <<< min drop (n.log2 + 2)) % 2 == 1)
  omega
theorem word_fin (s : Bool) (r : Nat) (h : r < 255 * 8388608) : (single.read (single.word s r)).isInfinity = false := by
  have hs : single.signWeight = 2147483648 := by decide
  have hb : single.binade = 8388608 := by decide
  have hi : single.infRung = 255 * 8388608 := by decide
  unfold Format.read Format.word
  rw [hs, hb, hi]
  have h1 : (if s = true then 2147483648 + r else r) % 2147483648 = r := by split <;> omega
  dsimp only
  rw [h1]
  by_cases h2 : r < 8388608
  · rw [if_pos h2]; rfl
  · rw [if_neg h2, if_pos h]; rfl
theorem near_fin (s : Bool) (m : Nat) (e : Int) (hk : m = 0 ∨ (max (e + m.log2 - 23) (-149) ≤ 37 ∧ Toward.even.cut s (m <<< (e - max (e + m.log2 - 23) (-149)).toNat) (max (e + m.log2 - 23) (-149) - e).toNat ≤ 16777217)) :
    (single.read (single.nearest s m e)).isInfinity = false := by
  have hb : single.binade = 8388608 := by decide
  have hi : single.infRung = 255 * 8388608 := by decide
  have hl : single.leastPlace = -149 := by decide
  have hf : single.fractionBits = 23 := rfl
  unfold Format.nearest
  by_cases h0 : m = 0
  · rw [if_pos h0]; exact word_fin _ _ (by omega)
  · rw [if_neg h0]
    rcases hk with hk | ⟨h1, h2⟩
    · exact absurd hk h0
    · dsimp only
      rw [hl, hf, hb, hi]
      refine word_fin _ _ ?_
      have e1 : ((23 : Nat) : Int) = 23 := rfl
      rw [e1]
      generalize max (e + m.log2 - 23) (-149) = last at h1 h2 ⊢
      have h3 : (last - -149).toNat ≤ 186 := by omega
      generalize (last - -149).toNat = q at h3 ⊢
      omega
theorem shl (n k : Nat) : 1 <<< k = 2 ^ k := Nat.one_shiftLeft k
theorem num_fin (s : Bool) (m : Nat) (e : Int) (h : (m < 2 ^ 52 ∧ e = -1074) ∨ (2 ^ 52 ≤ m ∧ m < 2 ^ 53 ∧ e ≤ 8)) : (single.read (single.nearest s m e)).isInfinity = false := by
  refine near_fin s m e ?_
  rcases h with ⟨h1, rfl⟩ | ⟨h1, h2, h3⟩
  · by_cases h0 : m = 0
    · exact .inl h0
    · right
      have hl : m.log2 < 52 := (Nat.log2_lt h0).2 h1
      have e1 : max ((-1074 : Int) + m.log2 - 23) (-149) = -149 := by omega
      rw [e1]
      refine ⟨by omega, ?_⟩
      have e2 : ((-1074 : Int) - -149).toNat = 0 := by decide
      have e3 : ((-149 : Int) - -1074).toNat = 925 := by decide
      rw [e2, e3, Nat.shiftLeft_zero]
      refine Nat.le_trans (cut_le _ _ _) ?_
      rw [Nat.one_shiftLeft, Nat.min_eq_right (by omega)]
      have : m < 2 ^ (m.log2 + 2) := Nat.lt_of_lt_of_le Nat.lt_log2_self (Nat.pow_le_pow_right (by omega) (by omega))
      rw [Nat.div_eq_of_lt this]
      omega
  · right
    have h0 : m ≠ 0 := by have : 0 < 2 ^ 52 := by decide
                          omega
    have hl : m.log2 = 52 := by
      have a := (Nat.log2_lt h0).2 h2
      have b := (Nat.le_log2 h0).2 h1
      omega
    rw [hl]
    have e1 : (e + ((52 : Nat) : Int) - 23) = e + 29 := by omega
    rw [e1]
    generalize hL : max (e + 29) (-149) = last
    refine ⟨by omega, ?_⟩
    have e2 : (e - last).toNat = 0 := by omega
    rw [e2, Nat.shiftLeft_zero]
    refine Nat.le_trans (cut_le _ _ _) ?_
    rw [Nat.one_shiftLeft, hl]
    have h4 : 29 ≤ min (last - e).toNat (52 + 2) := by omega
    have h5 : (2 ^ 29 : Nat) ≤ 2 ^ min (last - e).toNat (52 + 2) := Nat.pow_le_pow_right (by omega) h4
    have h6 : m / 2 ^ min (last - e).toNat (52 + 2) ≤ m / 2 ^ 29 := Nat.div_le_div_left h5 (by decide)
    have h7 : m / 2 ^ 29 < 2 ^ 24 := Nat.div_lt_of_lt_mul (by rw [← Nat.pow_add]; exact h2)
    have e3 : (2 : Nat) ^ 24 = 16777216 := by decide
    omega
theorem read_mo : double.read 4881901996069617664 = .number false 4503599627370496 9 := by decide
theorem read_nmo : double.read (Op.negFloat .f64 4881901996069617664) = .number true 4503599627370496 9 := by decide
theorem fits_f32 (f : Nat) (h1 : (FloatKind.f64.format.order f (Op.negFloat .f64 4881901996069617664) == some .gt) = true) (h2 : (FloatKind.f64.format.order f 4881901996069617664 == some .lt) = true) : ∃ g, floatToFloatBits .f64 f .f32 = some g := by
  have h1 := eq_of_beq h1
  have h2 := eq_of_beq h2
  unfold Format.order at h1 h2
  have hd : FloatKind.f64.format = double := rfl
  rw [hd, read_nmo] at h1
  rw [hd, read_mo] at h2
  have key : ∀ s m e, double.read f = .number s m e → (m < 2 ^ 52 ∧ e = -1074) ∨ (2 ^ 52 ≤ m ∧ m < 2 ^ 53 ∧ e ≤ 8) := by
    intro s m e hr
    rw [hr] at h1 h2
    have hs : double.signWeight = 2 ^ 63 := by decide
    have hb : double.binade = 2 ^ 52 := by decide
    have hi : double.infRung = 2047 * 2 ^ 52 := by decide
    have hlp : double.leastPlace = -1074 := by decide
    unfold Format.read at hr
    rw [hs, hb, hi, hlp] at hr
    dsimp only at hr
    split at hr
    · rename_i hlt
      cases hr
      exact .inl ⟨hlt, rfl⟩
    · split at hr
      · have hm : f % 2 ^ 63 % 2 ^ 52 < 2 ^ 52 := Nat.mod_lt _ (by decide)
        right
        have hme : m = 2 ^ 52 + f % 2 ^ 63 % 2 ^ 52 := by cases hr; rfl
        generalize f % 2 ^ 63 % 2 ^ 52 = r at hm hme
        refine ⟨by omega, by omega, ?_⟩
        by_cases he : e ≤ 8
        · exact he
        · exfalso
          have hmin : min e 9 = 9 := by omega
          have h10 : 4503599627370496 ≤ m <<< (e - 9).toNat := by
            rw [Nat.shiftLeft_eq]
            have : 1 ≤ 2 ^ (e - 9).toNat := Nat.one_le_two_pow
            have h11 : m * 1 ≤ m * 2 ^ (e - 9).toNat := Nat.mul_le_mul_left m this
            have e52 : (2 : Nat) ^ 52 = 4503599627370496 := by decide
            omega
          cases s with
          | false =>
            have h3 : some (compare (signed false m (e - min e 9).toNat) (signed false 4503599627370496 (9 - min e 9).toNat)) = some Ordering.lt := h2
            rw [hmin] at h3
            have h4 := Option.some.inj h3
            have e0 : ((9 : Int) - 9).toNat = 0 := by decide
            rw [e0] at h4
            unfold signed at h4
            simp only [Bool.false_eq_true, if_false, Nat.shiftLeft_zero] at h4
            have := Int.compare_eq_lt.1 h4
            omega
          | true =>
            have h3 : some (compare (signed true m (e - min e 9).toNat) (signed true 4503599627370496 (9 - min e 9).toNat)) = some Ordering.gt := h1
            rw [hmin] at h3
            have h4 := Option.some.inj h3
            have e0 : ((9 : Int) - 9).toNat = 0 := by decide
            rw [e0] at h4
            unfold signed at h4
            simp only [if_true, Nat.shiftLeft_zero] at h4
            have := Int.compare_eq_gt.1 h4
            omega
      · split at hr <;> cases hr
  unfold floatToFloatBits
  rw [if_neg (by decide)]
  have hdec : FloatKind.f64.decode f = double.read f := rfl
  rw [hdec]
  cases hr : double.read f with
  | nan a b => rw [hr] at h1; cases h1
  | infinity s =>
    rw [hr] at h1 h2
    cases s with
    | false => exact absurd h2 (by decide)
    | true => exact absurd h1 (by decide)
  | number s m e =>
    have hfin := num_fin s m e (key s m e hr)
    have h3 : (FloatKind.f32.decode (FloatKind.f32.encode (.number s m e))).isInfinity = false := hfin
    dsimp only
    rw [h3]
    exact ⟨_, rfl⟩
theorem fine_cut (e : Raw) : e.cut.Fine := by
  have hu : 0 ≤ IntKind.u64.wrap e.k := by rw [IntKind.wrap_u64]; omega
  have hk : cutK e.k = IntKind.u64.wrap e.k % 15 := by
    unfold cutK
    rw [Int.tmod_eq_emod_of_nonneg hu]
    exact IntWalk.i64_in _ (by omega)
  refine ⟨?_, ?_, ?_, ?_⟩
  · show 0 ≤ cutK e.k
    omega
  · show cutK e.k ≤ 14
    omega
  · obtain ⟨g, hg⟩ : ∃ g, floatToFloatBits .f64 (cutF 4881901996069617664 e.f) .f32 = some g := by
      unfold cutF
      by_cases h : ((FloatKind.f64.format.order e.f (Op.negFloat .f64 4881901996069617664) == some .gt) && (FloatKind.f64.format.order e.f 4881901996069617664 == some .lt)) = true
      · rw [if_pos h]
        rw [Bool.and_eq_true] at h
        exact fits_f32 _ h.1 h.2
      · rw [if_neg h]
        exact ⟨0, by decide⟩
    show floatToFloatBits .f64 (cutF 4881901996069617664 e.f) .f32 = some e.cut.g
    have : e.cut.g = (floatToFloatBits .f64 (cutF 4881901996069617664 e.f) .f32).getD 0 := rfl
    rw [this, hg]
    rfl
  · show (cutS e.s).size ≤ 400
    unfold cutS
    rw [ByteArray.size_extract]
    omega
end Go.Proofs.YtnggkkdcddpjlaaGreatDoor
