/- Floats between -2^61 and 2^61: their bits; their float32, and that widened and narrowed again. -/
import Derived.Test.YtnggkkdcddpjlaaGreatDoorFF
namespace Go.Proofs.YtnggkkdcddpjlaaGreatDoor
open Go.RowKit Ieee
set_option linter.unusedVariables false
theorem dbl : double.signWeight = 2 ^ 63 ∧ double.binade = 2 ^ 52 ∧ double.infRung = 2047 * 2 ^ 52 ∧ double.leastPlace = -1074 ∧ double.fractionBits = 52 := by decide
theorem sgl : single.signWeight = 2 ^ 31 ∧ single.binade = 2 ^ 23 ∧ single.infRung = 255 * 2 ^ 23 ∧ single.leastPlace = -149 ∧ single.fractionBits = 23 := by decide
theorem read_dbl (f : Nat) (h : f % 2 ^ 63 < 2047 * 2 ^ 52) : ∃ s m e, double.read f = .number s m e ∧ ((m < 2 ^ 52 ∧ e = -1074) ∨ (2 ^ 52 ≤ m ∧ m < 2 ^ 53 ∧ e = -1075 + ((f % 2 ^ 63 / 2 ^ 52 : Nat) : Int))) := by
  obtain ⟨hs, hb, hi, hl, _⟩ := dbl
  unfold Format.read
  rw [hs, hb, hi, hl]
  dsimp only
  by_cases h1 : f % 2 ^ 63 < 2 ^ 52
  · rw [if_pos h1]
    exact ⟨_, _, _, rfl, .inl ⟨h1, rfl⟩⟩
  · rw [if_neg h1, if_pos h]
    have hm : f % 2 ^ 63 % 2 ^ 52 < 2 ^ 52 := Nat.mod_lt _ (by decide)
    refine ⟨_, _, _, rfl, .inr ⟨by omega, by omega, ?_⟩⟩
    have : 1 ≤ f % 2 ^ 63 / 2 ^ 52 := by
      rw [Nat.le_div_iff_mul_le (by decide)]
      omega
    omega
theorem order_rung (f : Nat) (h1 : (FloatKind.f64.format.order f (Op.negFloat .f64 4881901996069617664) == some .gt) = true) (h2 : (FloatKind.f64.format.order f 4881901996069617664 == some .lt) = true) : f % 2 ^ 63 < 1084 * 2 ^ 52 := by
  have h1 := eq_of_beq h1
  have h2 := eq_of_beq h2
  unfold Format.order at h1 h2
  have hd : FloatKind.f64.format = double := rfl
  rw [hd, read_nmo] at h1
  rw [hd, read_mo] at h2
  by_cases hfin : f % 2 ^ 63 < 2047 * 2 ^ 52
  · obtain ⟨s, m, e, hr, hc⟩ := read_dbl f hfin
    rcases hc with ⟨hm, rfl⟩ | ⟨hm0, hm1, he⟩
    · have hs := dbl
      unfold Format.read at hr
      rw [hs.1, hs.2.1, hs.2.2.1, hs.2.2.2.1] at hr
      dsimp only at hr
      by_cases h3 : f % 2 ^ 63 < 2 ^ 52
      · omega
      · rw [if_neg h3, if_pos hfin] at hr
        exfalso
        have h5 : 2 ^ 52 + f % 2 ^ 63 % 2 ^ 52 = m := (Datum.number.inj hr).2.1
        omega
    · rw [hr] at h1 h2
      by_cases he8 : e ≤ 8
      · have h4 : f % 2 ^ 63 / 2 ^ 52 < 1084 := by omega
        rw [Nat.div_lt_iff_lt_mul (by decide)] at h4
        exact h4
      · exfalso
        have hmin : min e 9 = 9 := by omega
        have h10 : 4503599627370496 ≤ m <<< (e - 9).toNat := by
          rw [Nat.shiftLeft_eq]
          have : 1 ≤ 2 ^ (e - 9).toNat := Nat.one_le_two_pow
          have h11 : m * 1 ≤ m * 2 ^ (e - 9).toNat := Nat.mul_le_mul_left m this
          have e52 : (2 : Nat) ^ 52 = 4503599627370496 := by decide
          omega
        cases s with
        | false =>
          have h3 : some (compare (signed false m (e - min e 9).toNat) (signed false 4503599627370496 (9 - min e 9).toNat)) = some Ordering.lt := h2
          rw [hmin] at h3
          have h4 := Option.some.inj h3
          have e0 : ((9 : Int) - 9).toNat = 0 := by decide
          rw [e0] at h4
          unfold signed at h4
          simp only [Bool.false_eq_true, if_false, Nat.shiftLeft_zero] at h4
          have := Int.compare_eq_lt.1 h4
          omega
        | true =>
          have h3 : some (compare (signed true m (e - min e 9).toNat) (signed true 4503599627370496 (9 - min e 9).toNat)) = some Ordering.gt := h1
          rw [hmin] at h3
          have h4 := Option.some.inj h3
          have e0 : ((9 : Int) - 9).toNat = 0 := by decide
          rw [e0] at h4
          unfold signed at h4
          simp only [if_true, Nat.shiftLeft_zero] at h4
          have := Int.compare_eq_gt.1 h4
          omega
  · exfalso
    have hs := dbl
    unfold Format.read at h1 h2
    rw [hs.1, hs.2.1, hs.2.2.1, hs.2.2.2.1] at h1 h2
    dsimp only at h1 h2
    rw [if_neg (by omega), if_neg hfin] at h1 h2
    by_cases h3 : f % 2 ^ 63 = 2047 * 2 ^ 52
    · rw [if_pos h3] at h1 h2
      cases hq : (f / 2 ^ 63 % 2 == 1) with
      | false => rw [hq] at h2; exact absurd h2 (by decide)
      | true => rw [hq] at h1; exact absurd h1 (by decide)
    · rw [if_neg h3] at h1
      cases h1
theorem word_dbl (s : Bool) (r : Nat) (h : r < 2047 * 2 ^ 52) : double.word s r < 2 ^ 64 ∧ double.word s r % 2 ^ 63 = r := by
  unfold Format.word
  rw [dbl.1]
  split <;> omega
theorem word_sgl (s : Bool) (r : Nat) (h : r < 255 * 2 ^ 23) : single.word s r < 2 ^ 32 ∧ single.word s r % 2 ^ 31 = r := by
  unfold Format.word
  rw [sgl.1]
  split <;> omega
theorem fin_dbl (f : Nat) (h : f % 2 ^ 63 < 2047 * 2 ^ 52) : (double.read f).isInfinity = false := by
  obtain ⟨s, m, e, hr, _⟩ := read_dbl f h
  rw [hr]; rfl
theorem arith1 (q c : Nat) (hq : q ≤ 188) (hc : c ≤ 16777217) : min (q * 8388608 + c) (255 * 8388608) < 192 * 8388608 := Nat.lt_of_le_of_lt (Nat.min_le_left _ _) (by omega)
theorem arith2 (q c : Nat) (hq : q ≤ 186) (hc : c ≤ 16777217) : min (q * 8388608 + c) (255 * 8388608) < 189 * 8388608 := Nat.lt_of_le_of_lt (Nat.min_le_left _ _) (by omega)
theorem near_sgl (s : Bool) (m : Nat) (e : Int) (hk : (m < 2 ^ 52 ∧ e = -1074) ∨ (2 ^ 52 ≤ m ∧ m < 2 ^ 53 ∧ e ≤ 10)) : ∃ r, r < 192 * 2 ^ 23 ∧ (e ≤ 8 → r < 189 * 2 ^ 23) ∧ single.nearest s m e = single.word s r := by
  obtain ⟨hs, hb, hi, hl, hf⟩ := sgl
  unfold Format.nearest
  by_cases h0 : m = 0
  · rw [if_pos h0]
    exact ⟨0, by omega, fun _ => by omega, rfl⟩
  rw [if_neg h0]
  dsimp only
  rw [hl, hf, hb, hi]
  have e1 : ((23 : Nat) : Int) = 23 := rfl
  rw [e1]
  rcases hk with ⟨h1, rfl⟩ | ⟨h1, h2, h3⟩
  · have hl52 : m.log2 < 52 := (Nat.log2_lt h0).2 h1
    have e1 : max ((-1074 : Int) + m.log2 - 23) (-149) = -149 := by omega
    rw [e1]
    have e2 : ((-1074 : Int) - -149).toNat = 0 := by decide
    have e3 : ((-149 : Int) - -1074).toNat = 925 := by decide
    have e4 : ((-149 : Int) - -149).toNat = 0 := by decide
    rw [e2, e3, e4, Nat.shiftLeft_zero]
    have hc := cut_le s m 925
    rw [Nat.one_shiftLeft, Nat.min_eq_right (by omega)] at hc
    have h9 : m < 2 ^ (m.log2 + 2) := Nat.lt_of_lt_of_le Nat.lt_log2_self (Nat.pow_le_pow_right (by omega) (by omega))
    rw [Nat.div_eq_of_lt h9] at hc
    generalize Toward.even.cut s m 925 = c at hc ⊢
    have e5 : (2 : Nat) ^ 23 = 8388608 := by decide
    rw [e5]
    exact ⟨min (0 * 8388608 + c) (255 * 8388608), by omega, fun _ => by omega, rfl⟩
  · have hl52 : m.log2 = 52 := by
      have a := (Nat.log2_lt h0).2 h2
      have b := (Nat.le_log2 h0).2 h1
      omega
    rw [hl52]
    have e1 : (e + ((52 : Nat) : Int) - 23) = e + 29 := by omega
    rw [e1]
    generalize hL : max (e + 29) (-149) = last
    have e2 : (e - last).toNat = 0 := by omega
    rw [e2, Nat.shiftLeft_zero]
    have hc := cut_le s m (last - e).toNat
    rw [Nat.one_shiftLeft, hl52] at hc
    have h4 : 29 ≤ min (last - e).toNat (52 + 2) := by omega
    have h5 : (2 ^ 29 : Nat) ≤ 2 ^ min (last - e).toNat (52 + 2) := Nat.pow_le_pow_right (by omega) h4
    have h6 : m / 2 ^ min (last - e).toNat (52 + 2) ≤ m / 2 ^ 29 := Nat.div_le_div_left h5 (by decide)
    have h7 : m / 2 ^ 29 < 2 ^ 24 := Nat.div_lt_of_lt_mul (by rw [← Nat.pow_add]; exact h2)
    have e3 : (2 : Nat) ^ 24 = 16777216 := by decide
    have e5 : (2 : Nat) ^ 23 = 8388608 := by decide
    have h8 : (last - -149).toNat ≤ 188 := by omega
    have h9 : e ≤ 8 → (last - -149).toNat ≤ 186 := fun h => by omega
    generalize (last - -149).toNat = q at h8 h9 ⊢
    generalize Toward.even.cut s m (last - e).toNat = c at hc ⊢
    have hc2 : c ≤ 16777217 := by
      rw [e3] at h7
      have h10 := Nat.lt_of_le_of_lt h6 h7
      clear h6 h7 h5 h4 h1 h2
      omega
    clear hc h4 h5 h6 h7
    rw [e5]
    exact ⟨min (q * 8388608 + c) (255 * 8388608), arith1 q c h8 hc2, fun h => arith2 q c (h9 h) hc2, rfl⟩
/-- A float64 below 2^62 has its float32. -/
theorem narrow (f : Nat) (h : f % 2 ^ 63 < 1086 * 2 ^ 52) : ∃ s r, r < 192 * 2 ^ 23 ∧ (f % 2 ^ 63 < 1084 * 2 ^ 52 → r < 189 * 2 ^ 23) ∧ floatToFloatBits .f64 f .f32 = some (single.word s r) := by
  obtain ⟨s, m, e, hr, hc⟩ := read_dbl f (by omega)
  have hq : f % 2 ^ 63 / 2 ^ 52 < 1086 := by rw [Nat.div_lt_iff_lt_mul (by decide)]; exact h
  have hq2 : f % 2 ^ 63 < 1084 * 2 ^ 52 → f % 2 ^ 63 / 2 ^ 52 < 1084 := fun h => by rw [Nat.div_lt_iff_lt_mul (by decide)]; exact h
  obtain ⟨r, h1, h2, h3⟩ := near_sgl s m e (by
    rcases hc with h | ⟨a, b, c⟩
    · exact .inl h
    · exact .inr ⟨a, b, by omega⟩)
  refine ⟨s, r, h1, fun h => h2 ?_, ?_⟩
  · have := hq2 h
    rcases hc with ⟨_, h⟩ | ⟨_, _, c⟩ <;> omega
  · unfold floatToFloatBits
    rw [if_neg (by decide)]
    have hdec : FloatKind.f64.decode f = double.read f := rfl
    rw [hdec, hr]
    have h4 : FloatKind.f32.encode (.number s m e) = single.word s r := h3
    have h5 : FloatKind.f32.decode (single.word s r) = single.read (single.word s r) := rfl
    dsimp only
    rw [h4, h5, word_fin s r (by omega)]
    rfl
theorem read_sgl (s : Bool) (r : Nat) (h : r < 255 * 2 ^ 23) : ∃ m e, single.read (single.word s r) = .number s m e ∧ m < 2 ^ 24 ∧ -149 ≤ e ∧ (e ≤ -149 ∨ e ≤ -150 + ((r / 2 ^ 23 : Nat) : Int)) := by
  obtain ⟨hs, hb, hi, hl, _⟩ := sgl
  have hw := word_sgl s r h
  have hd : single.word s r / 2 ^ 31 % 2 = if s then 1 else 0 := by
    unfold Format.word
    rw [hs]
    split <;> omega
  unfold Format.read
  rw [hs, hb, hi, hl, hw.2, hd]
  have hb2 : ((if s = true then 1 else 0) == 1) = s := by cases s <;> rfl
  dsimp only
  rw [hb2]
  by_cases h1 : r < 2 ^ 23
  · rw [if_pos h1]
    exact ⟨_, _, rfl, by omega, by omega, .inl (by omega)⟩
  · rw [if_neg h1, if_pos h]
    have hm : r % 2 ^ 23 < 2 ^ 23 := Nat.mod_lt _ (by decide)
    have h2 : 1 ≤ r / 2 ^ 23 := by
      rw [Nat.le_div_iff_mul_le (by decide)]
      omega
    exact ⟨_, _, rfl, by omega, by omega, .inr (by omega)⟩
theorem near_dbl (s : Bool) (m : Nat) (e : Int) (hm : m < 2 ^ 24) (h0 : -149 ≤ e) (h1 : e ≤ 38) : ∃ r, r < 1086 * 2 ^ 52 ∧ double.nearest s m e = double.word s r := by
  obtain ⟨hs, hb, hi, hl, hf⟩ := dbl
  unfold Format.nearest
  by_cases hz : m = 0
  · rw [if_pos hz]
    exact ⟨0, by omega, rfl⟩
  rw [if_neg hz]
  dsimp only
  rw [hl, hf, hb, hi]
  have hl24 : m.log2 < 24 := (Nat.log2_lt hz).2 hm
  have e0 : ((52 : Nat) : Int) = 52 := rfl
  rw [e0]
  have e1 : max (e + m.log2 - 52) (-1074) = e + m.log2 - 52 := by omega
  rw [e1]
  have e2 : (e + m.log2 - 52 - e).toNat = 0 := by omega
  have e3 : (e - (e + m.log2 - 52)).toNat = 52 - m.log2 := by omega
  rw [e2, e3]
  have hc := cut_le s (m <<< (52 - m.log2)) 0
  have e4 : (1 <<< min 0 ((m <<< (52 - m.log2)).log2 + 2)) = 1 := by rw [Nat.zero_min]; rfl
  rw [e4, Nat.div_one] at hc
  have h5 : m <<< (52 - m.log2) < 2 ^ 53 := by
    rw [Nat.shiftLeft_eq]
    have h6 : m < 2 ^ (m.log2 + 1) := Nat.lt_log2_self
    have h7 : m * 2 ^ (52 - m.log2) < 2 ^ (m.log2 + 1) * 2 ^ (52 - m.log2) := Nat.mul_lt_mul_of_pos_right h6 (Nat.two_pow_pos _)
    rw [← Nat.pow_add] at h7
    have h8 : m.log2 + 1 + (52 - m.log2) = 53 := by omega
    rw [h8] at h7
    exact h7
  generalize m <<< (52 - m.log2) = n at hc h5 ⊢
  have h8 : (e + m.log2 - 52 - -1074).toNat ≤ 1083 := by omega
  generalize (e + m.log2 - 52 - -1074).toNat = q at h8 ⊢
  generalize Toward.even.cut s n 0 = c at hc ⊢
  have e6 : (2 : Nat) ^ 53 = 2 * 2 ^ 52 := by decide
  rw [e6] at h5
  generalize (2 : Nat) ^ 52 = B at h5 ⊢
  have h9 : q * B ≤ 1083 * B := Nat.mul_le_mul_right B h8
  generalize q * B = qB at h9 ⊢
  exact ⟨min (qB + c) (2047 * B), by omega, rfl⟩
/-- A float32 below 2^62 widened. -/
theorem widen (s : Bool) (r : Nat) (h : r < 189 * 2 ^ 23) : ∃ r', r' < 1086 * 2 ^ 52 ∧ floatToFloatBits .f32 (single.word s r) .f64 = some (double.word s r') := by
  obtain ⟨m, e, hr, h1, h2, h3⟩ := read_sgl s r (by omega)
  have hq : r / 2 ^ 23 < 189 := by rw [Nat.div_lt_iff_lt_mul (by decide)]; exact h
  obtain ⟨r', h4, h5⟩ := near_dbl s m e h1 h2 (by omega)
  refine ⟨r', h4, ?_⟩
  unfold floatToFloatBits
  rw [if_neg (by decide)]
  have hdec : FloatKind.f32.decode (single.word s r) = single.read (single.word s r) := rfl
  rw [hdec, hr]
  have h6 : FloatKind.f64.encode (.number s m e) = double.word s r' := h5
  have h7 : FloatKind.f64.decode (double.word s r') = double.read (double.word s r') := rfl
  dsimp only
  rw [h6, h7, fin_dbl _ (by rw [(word_dbl s r' (by omega)).2]; omega)]
  rfl
/-- What the walks need of a float64 f: its bits; its float32 g, that widened to h, and h narrowed. -/
structure Flt (f g h g' : Nat) : Prop where
  f0 : f < 18446744073709551616
  f1 : f / 4503599627370496 % 2048 < 2047
  n1 : floatToFloatBits .f64 f .f32 = some g
  w1 : floatToFloatBits .f32 g .f64 = some h
  n2 : floatToFloatBits .f64 h .f32 = some g'
  g0 : g' < 4294967296
  g1 : g' / 8388608 % 256 < 255
theorem flt_of (f : Nat) (h0 : f < 18446744073709551616) (h1 : f % 2 ^ 63 < 1084 * 2 ^ 52) : ∃ g h g', Flt f g h g' := by
  obtain ⟨s, r, hr1, hr2, hn⟩ := narrow f (by omega)
  obtain ⟨r', hr3, hw⟩ := widen s r (hr2 h1)
  obtain ⟨s2, r2, hr4, _, hn2⟩ := narrow (double.word s r') (by rw [(word_dbl s r' (by omega)).2]; exact hr3)
  have hw2 := word_sgl s2 r2 (by omega)
  refine ⟨_, _, _, h0, ?_, hn, hw, hn2, hw2.1, ?_⟩
  · omega
  · have := hw2.2
    have h5 : r2 / 2 ^ 23 < 192 := by rw [Nat.div_lt_iff_lt_mul (by decide)]; exact hr4
    omega
end Go.Proofs.YtnggkkdcddpjlaaGreatDoor
