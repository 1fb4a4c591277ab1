/- FnCastNumber: the casts to numbers at plain values, their doors, the law. -/
import Derived.Test.YtnggkkdcddpjlaaGreatDoorFL
import Derived.Test.YtnggkkdcddpjlaaGreatDoorI3
import Derived.Test.YtnggkkdcddpjlaaGreatDoorTA
import Derived.Test.YtnggkkdcddpjlaaGreatDoorGF
import Derived.Test.YtnggkkdcddpjlaaGreatDoorC6
import Derived.Test.YtnggkkdcddpjlaaGreatDoorTB
/- Floats near nought: to a float of 32 bits, to an int, to a byte. -/
namespace Go.Proofs.YtnggkkdcddpjlaaGreatDoor
open Ieee
open Ieee.Datum
set_option maxRecDepth 100000
set_option linter.unusedVariables false
theorem read_p127 : double.read 4638637247447433216 = .number false 8936830510563328 (-46) := by decide
theorem read_m127 : double.read (Op.negFloat .f64 4638637247447433216) = .number true 8936830510563328 (-46) := by decide
theorem near_rung (f : Nat) (h1 : (FloatKind.f64.format.order f (Op.negFloat .f64 4638637247447433216) == some .gt) = true) (h2 : (FloatKind.f64.format.order f 4638637247447433216 == some .lt) = true) : f % 2 ^ 63 < 1030 * 2 ^ 52 := by
  have h1 := eq_of_beq h1
  have h2 := eq_of_beq h2
  unfold Format.order at h1 h2
  have hd : FloatKind.f64.format = double := rfl
  rw [hd, read_m127] at h1
  rw [hd, read_p127] at h2
  by_cases hfin : f % 2 ^ 63 < 2047 * 2 ^ 52
  · obtain ⟨s, m, e, hr, hc⟩ := read_dbl f hfin
    rcases hc with ⟨hm, rfl⟩ | ⟨hm0, hm1, he⟩
    · have hs := dbl
      unfold Format.read at hr
      rw [hs.1, hs.2.1, hs.2.2.1, hs.2.2.2.1] at hr
      dsimp only at hr
      by_cases h3 : f % 2 ^ 63 < 2 ^ 52
      · omega
      · rw [if_neg h3, if_pos hfin] at hr
        exfalso
        have h5 : 2 ^ 52 + f % 2 ^ 63 % 2 ^ 52 = m := (Datum.number.inj hr).2.1
        omega
    · rw [hr] at h1 h2
      by_cases he8 : e ≤ -46
      · have h4 : f % 2 ^ 63 / 2 ^ 52 < 1030 := by omega
        rw [Nat.div_lt_iff_lt_mul (by decide)] at h4
        exact h4
      · exfalso
        have hmin : min e (-46) = -46 := by omega
        have h10 : 9007199254740992 ≤ m <<< (e - -46).toNat := by
          rw [Nat.shiftLeft_eq]
          have : 2 ^ 1 ≤ 2 ^ (e - -46).toNat := Nat.pow_le_pow_right (by decide) (by omega)
          have h11 : m * 2 ^ 1 ≤ m * 2 ^ (e - -46).toNat := Nat.mul_le_mul_left m this
          have e52 : (2 : Nat) ^ 52 = 4503599627370496 := by decide
          omega
        cases s with
        | false =>
          have h3 : some (compare (signed false m (e - min e (-46)).toNat) (signed false 8936830510563328 (-46 - min e (-46)).toNat)) = some Ordering.lt := h2
          rw [hmin] at h3
          have h4 := Option.some.inj h3
          have e0 : ((-46 : Int) - -46).toNat = 0 := by decide
          rw [e0] at h4
          unfold signed at h4
          simp only [Bool.false_eq_true, if_false, Nat.shiftLeft_zero] at h4
          have := Int.compare_eq_lt.1 h4
          omega
        | true =>
          have h3 : some (compare (signed true m (e - min e (-46)).toNat) (signed true 8936830510563328 (-46 - min e (-46)).toNat)) = some Ordering.gt := h1
          rw [hmin] at h3
          have h4 := Option.some.inj h3
          have e0 : ((-46 : Int) - -46).toNat = 0 := by decide
          rw [e0] at h4
          unfold signed at h4
          simp only [if_true, Nat.shiftLeft_zero] at h4
          have := Int.compare_eq_gt.1 h4
          omega
  · exfalso
    have hs := dbl
    unfold Format.read at h1 h2
    rw [hs.1, hs.2.1, hs.2.2.1, hs.2.2.2.1] at h1 h2
    dsimp only at h1 h2
    rw [if_neg (by omega), if_neg hfin] at h1 h2
    by_cases h3 : f % 2 ^ 63 = 2047 * 2 ^ 52
    · rw [if_pos h3] at h1 h2
      cases hq : (f / 2 ^ 63 % 2 == 1) with
      | false => rw [hq] at h2; exact absurd h2 (by decide)
      | true => rw [hq] at h1; exact absurd h1 (by decide)
    · rw [if_neg h3] at h1
      cases h1
theorem arith3 (q c : Nat) (hq : q ≤ 132) (hc : c ≤ 16777217) : min (q * 8388608 + c) (255 * 8388608) < 135 * 8388608 := Nat.lt_of_le_of_lt (Nat.min_le_left _ _) (by omega)
theorem near_sgl2 (s : Bool) (m : Nat) (e : Int) (hk : (m < 2 ^ 52 ∧ e = -1074) ∨ (2 ^ 52 ≤ m ∧ m < 2 ^ 53 ∧ e ≤ -46)) : ∃ r, r < 135 * 2 ^ 23 ∧ single.nearest s m e = single.word s r := by
  obtain ⟨hs, hb, hi, hl, hf⟩ := sgl
  rcases hk with hk | ⟨h1, h2, h3⟩
  · obtain ⟨r, _, hr, hn⟩ := near_sgl s m e (Or.inl hk)
    unfold Format.nearest at hn ⊢
    by_cases h0 : m = 0
    · rw [if_pos h0]
      exact ⟨0, by omega, rfl⟩
    obtain ⟨h1, rfl⟩ := hk
    rw [if_neg h0]
    dsimp only
    rw [hl, hf, hb, hi]
    have hl52 : m.log2 < 52 := (Nat.log2_lt h0).2 h1
    have e0 : ((23 : Nat) : Int) = 23 := rfl
    rw [e0]
    have e1 : max ((-1074 : Int) + m.log2 - 23) (-149) = -149 := by omega
    rw [e1]
    have e2 : ((-1074 : Int) - -149).toNat = 0 := by decide
    have e3 : ((-149 : Int) - -1074).toNat = 925 := by decide
    have e4 : ((-149 : Int) - -149).toNat = 0 := by decide
    rw [e2, e3, e4, Nat.shiftLeft_zero]
    have hc := cut_le s m 925
    rw [Nat.one_shiftLeft, Nat.min_eq_right (by omega)] at hc
    have h9 : m < 2 ^ (m.log2 + 2) := Nat.lt_of_lt_of_le Nat.lt_log2_self (Nat.pow_le_pow_right (by omega) (by omega))
    rw [Nat.div_eq_of_lt h9] at hc
    generalize Toward.even.cut s m 925 = c at hc ⊢
    have e5 : (2 : Nat) ^ 23 = 8388608 := by decide
    rw [e5]
    exact ⟨min (0 * 8388608 + c) (255 * 8388608), by omega, rfl⟩
  · have h0 : m ≠ 0 := by omega
    unfold Format.nearest
    rw [if_neg h0]
    dsimp only
    rw [hl, hf, hb, hi]
    have e0 : ((23 : Nat) : Int) = 23 := rfl
    rw [e0]
    have hl52 : m.log2 = 52 := by
      have a := (Nat.log2_lt h0).2 h2
      have b := (Nat.le_log2 h0).2 h1
      omega
    rw [hl52]
    have e1 : (e + ((52 : Nat) : Int) - 23) = e + 29 := by omega
    rw [e1]
    generalize hL : max (e + 29) (-149) = last
    have e2 : (e - last).toNat = 0 := by omega
    rw [e2, Nat.shiftLeft_zero]
    have hc := cut_le s m (last - e).toNat
    rw [Nat.one_shiftLeft, hl52] at hc
    have h4 : 29 ≤ min (last - e).toNat (52 + 2) := by omega
    have h5 : (2 ^ 29 : Nat) ≤ 2 ^ min (last - e).toNat (52 + 2) := Nat.pow_le_pow_right (by omega) h4
    have h6 : m / 2 ^ min (last - e).toNat (52 + 2) ≤ m / 2 ^ 29 := Nat.div_le_div_left h5 (by decide)
    have h7 : m / 2 ^ 29 < 2 ^ 24 := Nat.div_lt_of_lt_mul (by rw [← Nat.pow_add]; exact h2)
    have e3 : (2 : Nat) ^ 24 = 16777216 := by decide
    have e5 : (2 : Nat) ^ 23 = 8388608 := by decide
    have h8 : (last - -149).toNat ≤ 132 := by omega
    generalize (last - -149).toNat = q at h8 ⊢
    generalize Toward.even.cut s m (last - e).toNat = c at hc ⊢
    have hc2 : c ≤ 16777217 := by
      rw [e3] at h7
      have h10 := Nat.lt_of_le_of_lt h6 h7
      clear h6 h7 h5 h4 h1 h2
      omega
    clear hc h4 h5 h6 h7
    rw [e5]
    exact ⟨min (q * 8388608 + c) (255 * 8388608), arith3 q c h8 hc2, rfl⟩
theorem narrow2 (f : Nat) (h : f % 2 ^ 63 < 1030 * 2 ^ 52) : ∃ s r, r < 135 * 2 ^ 23 ∧ floatToFloatBits .f64 f .f32 = some (single.word s r) := by
  obtain ⟨s, m, e, hr, hc⟩ := read_dbl f (by omega)
  have hq : f % 2 ^ 63 / 2 ^ 52 < 1030 := by rw [Nat.div_lt_iff_lt_mul (by decide)]; exact h
  obtain ⟨r, h1, h3⟩ := near_sgl2 s m e (by
    rcases hc with h | ⟨a, b, c⟩
    · exact .inl h
    · exact .inr ⟨a, b, by omega⟩)
  refine ⟨s, r, h1, ?_⟩
  unfold floatToFloatBits
  rw [if_neg (by decide)]
  have hdec : FloatKind.f64.decode f = double.read f := rfl
  rw [hdec, hr]
  have h4 : FloatKind.f32.encode (.number s m e) = single.word s r := h3
  have h5 : FloatKind.f32.decode (single.word s r) = single.read (single.word s r) := rfl
  dsimp only
  rw [h4, h5, word_fin s r (by omega)]
  rfl
theorem cutz_le (s : Bool) (m d j : Nat) (hj : j ≤ d) : Toward.zero.cut s m d ≤ m / 2 ^ j := by
  unfold Toward.cut
  dsimp only
  rw [Nat.one_shiftLeft]
  simp only [Bool.toNat_false, Nat.add_zero]
  by_cases h : j ≤ m.log2 + 2
  · exact Nat.div_le_div_left (Nat.pow_le_pow_right (by decide) (by omega)) (Nat.two_pow_pos j)
  · have h1 : min d (m.log2 + 2) = m.log2 + 2 := by omega
    rw [h1, Nat.div_eq_of_lt]
    · exact Nat.zero_le _
    · exact Nat.lt_of_lt_of_le Nat.lt_log2_self (Nat.pow_le_pow_right (by omega) (by omega))
theorem zero_read (k : FloatKind) : k.format.read 0 = .number false 0 k.format.leastPlace := by cases k <;> decide
/-- A number near nought, cut towards it. -/
theorem toInt_small (k : FloatKind) (x : Nat) (s : Bool) (m : Nat) (e : Int) (hr : k.format.read x = .number s m e) (j : Nat) (hj : 0 < j) (he : e ≤ -(j : Int)) (hm : m < 2 ^ (j + 8)) :
    ∃ n : Int, -256 < n ∧ n < 256 ∧ (k.decode x).toInt .zero = some n ∧ ((k.format.order x 0 == some .lt) = false → 0 ≤ n) := by
  have hd : k.decode x = .number s m e := hr
  have hv := cutz_le s m (-e).toNat j (by omega)
  have hv2 : m / 2 ^ j < 256 := by
    rw [Nat.div_lt_iff_lt_mul (Nat.two_pow_pos j)]
    rw [Nat.pow_add] at hm
    omega
  have he0 : e.toNat = 0 := by omega
  have hi : (Datum.number s m e).toInt .zero = some (signed s (Toward.zero.cut s m (-e).toNat) 0) := by
    unfold Datum.toInt Datum.integral
    dsimp only
    rw [he0, Nat.shiftLeft_zero]
  obtain ⟨V, hV⟩ : ∃ V, V = Toward.zero.cut s m (-e).toNat := ⟨_, rfl⟩
  rw [← hV] at hi hv
  refine ⟨signed s V 0, ?_, ?_, by rw [hd]; exact hi, fun ho => ?_⟩
  · unfold signed
    rw [Nat.shiftLeft_zero]
    split <;> omega
  · unfold signed
    rw [Nat.shiftLeft_zero]
    split <;> omega
  · cases s with
    | false =>
      unfold signed
      rw [if_neg (by decide)]
      omega
    | true =>
      have hz : m = 0 := by
        rcases Nat.eq_zero_or_pos m with h | h
        · exact h
        · exfalso
          unfold Format.order at ho
          rw [hr, zero_read k] at ho
          have h3 : (some (compare (signed true m (e - min e k.format.leastPlace).toNat) (signed false 0 (k.format.leastPlace - min e k.format.leastPlace).toNat)) == some Ordering.lt) = false := ho
          have h4 : compare (signed true m (e - min e k.format.leastPlace).toNat) (signed false 0 (k.format.leastPlace - min e k.format.leastPlace).toNat) = Ordering.lt := by
            rw [Int.compare_eq_lt]
            unfold signed
            rw [if_pos rfl, if_neg (by decide), Nat.shiftLeft_eq, Nat.shiftLeft_eq, Nat.zero_mul]
            have : 0 < m * 2 ^ (e - min e k.format.leastPlace).toNat := Nat.mul_pos h (Nat.two_pow_pos _)
            omega
          rw [h4] at h3
          cases h3
      rw [hz, Nat.zero_div] at hv
      unfold signed
      rw [Nat.shiftLeft_zero]
      split <;> omega
theorem toVal {k : FloatKind} {x : Nat} {n : Int} (h : (k.decode x).toInt .zero = some n) (h0 : -256 < n) (h1 : n < 256) : floatToIntVal k x .i64 = some n ∧ (0 ≤ n → floatToIntVal k x .u8 = some n) := by
  refine ⟨?_, fun hn => ?_⟩
  · unfold floatToIntVal
    rw [h]
    dsimp only
    rw [if_pos]
    have e1 : IntKind.i64.min = -9223372036854775808 := by decide
    have e2 : IntKind.i64.max = 9223372036854775807 := by decide
    rw [e1, e2]
    omega
  · unfold floatToIntVal
    rw [h]
    dsimp only
    rw [if_pos]
    have e1 : IntKind.u8.min = 0 := by decide
    have e2 : IntKind.u8.max = 255 := by decide
    rw [e1, e2]
    omega
/-- What is known of a float near nought. -/
structure Near (f g h : Nat) : Prop where
  n1 : floatToFloatBits .f64 f .f32 = some g
  w1 : floatToFloatBits .f32 g .f64 = some h
  i64 : ∃ n : Int, -256 < n ∧ n < 256 ∧ floatToIntVal .f64 f .i64 = some n
  u8 : (FloatKind.f64.format.order f 0 == some .lt) = false → ∃ n : Int, 0 ≤ n ∧ n < 256 ∧ floatToIntVal .f64 f .u8 = some n
  j64 : ∃ n : Int, -256 < n ∧ n < 256 ∧ floatToIntVal .f32 g .i64 = some n
  v8 : (FloatKind.f32.format.order g 0 == some .lt) = false → ∃ n : Int, 0 ≤ n ∧ n < 256 ∧ floatToIntVal .f32 g .u8 = some n
theorem near_of (f : Nat) (h1 : f % 2 ^ 63 < 1030 * 2 ^ 52) : ∃ g h, Near f g h := by
  obtain ⟨s, m, e, hr, hc⟩ := read_dbl f (by omega)
  have hq : f % 2 ^ 63 / 2 ^ 52 < 1030 := by rw [Nat.div_lt_iff_lt_mul (by decide)]; exact h1
  obtain ⟨n, n0, n1, hn, hnn⟩ := toInt_small .f64 f s m e hr 46 (by decide) (by rcases hc with ⟨_, h⟩ | ⟨_, _, c⟩ <;> omega) (by
    have e54 : (2 : Nat) ^ (46 + 8) = 18014398509481984 := by decide
    have e53 : (2 : Nat) ^ 53 = 9007199254740992 := by decide
    rcases hc with ⟨a, _⟩ | ⟨_, a, _⟩ <;> omega)
  obtain ⟨t1, t2⟩ := toVal hn n0 n1
  obtain ⟨s2, r, hr1, hg⟩ := narrow2 f h1
  obtain ⟨r', _, hw⟩ := widen s2 r (by omega)
  obtain ⟨m2, e2, hr2, hm2, hl2, hc2⟩ := read_sgl s2 r (by omega)
  have hq2 : r / 2 ^ 23 < 135 := by rw [Nat.div_lt_iff_lt_mul (by decide)]; exact hr1
  obtain ⟨n', n0', n1', hn', hnn'⟩ := toInt_small .f32 (single.word s2 r) s2 m2 e2 hr2 16 (by decide) (by rcases hc2 with h | h <;> omega) hm2
  obtain ⟨t1', t2'⟩ := toVal hn' n0' n1'
  exact ⟨_, _, ⟨hg, hw, ⟨n, n0, n1, t1⟩, fun ho => ⟨n, hnn ho, n1, t2 (hnn ho)⟩, ⟨n', n0', n1', t1'⟩, fun ho => ⟨n', hnn' ho, n1', t2' (hnn' ho)⟩⟩⟩
end Go.Proofs.YtnggkkdcddpjlaaGreatDoor

/- cast's toNumber[int], toNumber[float64], toUnsignedNumber[uint8] at plain values: their answers hang on the value alone. -/
namespace Go.Proofs.YtnggkkdcddpjlaaGreatDoor
open Go.RowKit
set_option maxRecDepth 100000
set_option linter.unusedVariables false
set_option linter.unusedSimpArgs false
def TnI (box : Value) (v : Int) : Prop := ∀ w, Calls Tryz.prog 154 #[box] w fun e w' => e = .returned (.tuple #[.int .i64 v, .bool true]) ∧ w' = w
def TnF (box : Value) (f : Nat) : Prop := ∀ w, Calls Tryz.prog 160 #[box] w fun e w' => e = .returned (.tuple #[.float .f64 f, .bool true]) ∧ w' = w
def TnU (box : Value) (v : Int) (ok : Bool) : Prop := ∀ w, Calls Tryz.prog 157 #[box] w fun e w' => e = .returned (.tuple #[.int .u8 v, .bool ok, .bool ok]) ∧ w' = w
theorem tnI_0 : TnI .nilIface 0 := fun w => by
  go_enter Tryz.func154, Tryz.ntmps154
  go_wp2
  all_goals go_ret2
  all_goals exact ⟨rfl, rfl⟩
theorem tnI_1 (b : Bool) : TnI (.iface 4 (.bool b)) (if b then 1 else 0) := fun w => by
  cases b
  all_goals
    go_enter Tryz.func154, Tryz.ntmps154
    go_wp2
    all_goals go_ret2
    all_goals exact ⟨rfl, rfl⟩
theorem tnI_2 (n : Int) (h0 : -9223372036854775808 ≤ n) (h1 : n ≤ 9223372036854775807) : TnI (.iface 3 (.int .i64 n)) (n) := fun w => by
  go_enter Tryz.func154, Tryz.ntmps154
  go_wp2
  all_goals go_ret2
  all_goals exact ⟨rfl, rfl⟩
theorem tnI_3 (n : Int) (h0 : -128 ≤ n) (h1 : n ≤ 127) : TnI (.iface 81 (.int .i8 n)) (n) := fun w => by
  go_enter Tryz.func154, Tryz.ntmps154
  go_wp2
  all_goals go_ret2
  all_goals exact ⟨rfl, rfl⟩
theorem tnI_4 (n : Int) (h0 : -32768 ≤ n) (h1 : n ≤ 32767) : TnI (.iface 82 (.int .i16 n)) (n) := fun w => by
  go_enter Tryz.func154, Tryz.ntmps154
  go_wp2
  all_goals go_ret2
  all_goals exact ⟨rfl, rfl⟩
theorem tnI_5 (n : Int) (h0 : -2147483648 ≤ n) (h1 : n ≤ 2147483647) : TnI (.iface 21 (.int .i32 n)) (n) := fun w => by
  go_enter Tryz.func154, Tryz.ntmps154
  go_wp2
  all_goals go_ret2
  all_goals exact ⟨rfl, rfl⟩
theorem tnI_6 (n : Int) (h0 : -9223372036854775808 ≤ n) (h1 : n ≤ 9223372036854775807) : TnI (.iface 2 (.int .i64 n)) (n) := fun w => by
  go_enter Tryz.func154, Tryz.ntmps154
  go_wp2
  all_goals go_ret2
  all_goals exact ⟨rfl, rfl⟩
theorem tnI_7 (n : Int) (h0 : 0 ≤ n) (h1 : n < 18446744073709551616) : TnI (.iface 80 (.int .u64 n)) (wrap64 n) := fun w => by
  go_enter Tryz.func154, Tryz.ntmps154
  go_wp2
  all_goals go_ret2
  all_goals exact ⟨rfl, rfl⟩
theorem tnI_8 (n : Int) (h0 : 0 ≤ n) (h1 : n < 256) : TnI (.iface 5 (.int .u8 n)) (n) := fun w => by
  go_enter Tryz.func154, Tryz.ntmps154
  go_wp2
  all_goals go_ret2
  all_goals exact ⟨rfl, rfl⟩
theorem tnI_9 (n : Int) (h0 : 0 ≤ n) (h1 : n < 65536) : TnI (.iface 126 (.int .u16 n)) (n) := fun w => by
  go_enter Tryz.func154, Tryz.ntmps154
  go_wp2
  all_goals go_ret2
  all_goals exact ⟨rfl, rfl⟩
theorem tnI_10 (n : Int) (h0 : 0 ≤ n) (h1 : n < 4294967296) : TnI (.iface 127 (.int .u32 n)) (n) := fun w => by
  go_enter Tryz.func154, Tryz.ntmps154
  go_wp2
  all_goals go_ret2
  all_goals exact ⟨rfl, rfl⟩
theorem tnI_11 (n : Int) (h0 : 0 ≤ n) (h1 : n < 18446744073709551616) : TnI (.iface 24 (.int .u64 n)) (wrap64 n) := fun w => by
  go_enter Tryz.func154, Tryz.ntmps154
  go_wp2
  all_goals go_ret2
  all_goals exact ⟨rfl, rfl⟩
theorem tnI_12 (g : Nat) (n : Int) (h : floatToIntVal .f32 g .i64 = some n) : TnI (.iface 66 (.float .f32 g)) n := fun w => by
  have hc := fun w => run_convert_float_int (P := Tryz.prog) w 66 3 .f32 .i64 g n (by rw [Tryz.underlying66]; rfl) Tryz.underlying3 h
  clear h
  go_enter Tryz.func154, Tryz.ntmps154
  go_wp2
  all_goals go_ret2
  all_goals exact ⟨rfl, rfl⟩
theorem tnI_13 (f : Nat) (n : Int) (h : floatToIntVal .f64 f .i64 = some n) : TnI (.iface 25 (.float .f64 f)) n := fun w => by
  have hc := fun w => run_convert_float_int (P := Tryz.prog) w 25 3 .f64 .i64 f n (by rw [Tryz.underlying25]; rfl) Tryz.underlying3 h
  clear h
  go_enter Tryz.func154, Tryz.ntmps154
  go_wp2
  all_goals go_ret2
  all_goals exact ⟨rfl, rfl⟩
theorem tnF_0 : TnF .nilIface 0 := fun w => by
  go_enter Tryz.func160, Tryz.ntmps160
  go_wp2
  all_goals go_ret2
  all_goals exact ⟨rfl, rfl⟩
theorem tnF_1 (b : Bool) : TnF (.iface 4 (.bool b)) (if b then 4607182418800017408 else 0) := fun w => by
  cases b
  all_goals
    go_enter Tryz.func160, Tryz.ntmps160
    go_wp2
    all_goals go_ret2
    all_goals exact ⟨rfl, rfl⟩
theorem tnF_2 (n : Int) (h0 : -9223372036854775808 ≤ n) (h1 : n ≤ 9223372036854775807) : TnF (.iface 3 (.int .i64 n)) (floatOfInt .f64 n) := fun w => by
  go_enter Tryz.func160, Tryz.ntmps160
  go_wp2
  all_goals go_ret2
  all_goals exact ⟨rfl, rfl⟩
theorem tnF_3 (n : Int) (h0 : -128 ≤ n) (h1 : n ≤ 127) : TnF (.iface 81 (.int .i8 n)) (floatOfInt .f64 n) := fun w => by
  go_enter Tryz.func160, Tryz.ntmps160
  go_wp2
  all_goals go_ret2
  all_goals exact ⟨rfl, rfl⟩
theorem tnF_4 (n : Int) (h0 : -32768 ≤ n) (h1 : n ≤ 32767) : TnF (.iface 82 (.int .i16 n)) (floatOfInt .f64 n) := fun w => by
  go_enter Tryz.func160, Tryz.ntmps160
  go_wp2
  all_goals go_ret2
  all_goals exact ⟨rfl, rfl⟩
theorem tnF_5 (n : Int) (h0 : -2147483648 ≤ n) (h1 : n ≤ 2147483647) : TnF (.iface 21 (.int .i32 n)) (floatOfInt .f64 n) := fun w => by
  go_enter Tryz.func160, Tryz.ntmps160
  go_wp2
  all_goals go_ret2
  all_goals exact ⟨rfl, rfl⟩
theorem tnF_6 (n : Int) (h0 : -9223372036854775808 ≤ n) (h1 : n ≤ 9223372036854775807) : TnF (.iface 2 (.int .i64 n)) (floatOfInt .f64 n) := fun w => by
  go_enter Tryz.func160, Tryz.ntmps160
  go_wp2
  all_goals go_ret2
  all_goals exact ⟨rfl, rfl⟩
theorem tnF_7 (n : Int) (h0 : 0 ≤ n) (h1 : n < 18446744073709551616) : TnF (.iface 80 (.int .u64 n)) (floatOfInt .f64 n) := fun w => by
  go_enter Tryz.func160, Tryz.ntmps160
  go_wp2
  all_goals go_ret2
  all_goals exact ⟨rfl, rfl⟩
theorem tnF_8 (n : Int) (h0 : 0 ≤ n) (h1 : n < 256) : TnF (.iface 5 (.int .u8 n)) (floatOfInt .f64 n) := fun w => by
  go_enter Tryz.func160, Tryz.ntmps160
  go_wp2
  all_goals go_ret2
  all_goals exact ⟨rfl, rfl⟩
theorem tnF_9 (n : Int) (h0 : 0 ≤ n) (h1 : n < 65536) : TnF (.iface 126 (.int .u16 n)) (floatOfInt .f64 n) := fun w => by
  go_enter Tryz.func160, Tryz.ntmps160
  go_wp2
  all_goals go_ret2
  all_goals exact ⟨rfl, rfl⟩
theorem tnF_10 (n : Int) (h0 : 0 ≤ n) (h1 : n < 4294967296) : TnF (.iface 127 (.int .u32 n)) (floatOfInt .f64 n) := fun w => by
  go_enter Tryz.func160, Tryz.ntmps160
  go_wp2
  all_goals go_ret2
  all_goals exact ⟨rfl, rfl⟩
theorem tnF_11 (n : Int) (h0 : 0 ≤ n) (h1 : n < 18446744073709551616) : TnF (.iface 24 (.int .u64 n)) (floatOfInt .f64 n) := fun w => by
  go_enter Tryz.func160, Tryz.ntmps160
  go_wp2
  all_goals go_ret2
  all_goals exact ⟨rfl, rfl⟩
theorem tnF_12 (g h : Nat) (hc : floatToFloatBits .f32 g .f64 = some h) : TnF (.iface 66 (.float .f32 g)) h := fun w => by
  have hcf := fun w => run_convert_float_float (P := Tryz.prog) w 66 25 .f32 .f64 g h (by rw [Tryz.underlying66]; rfl) Tryz.underlying25 hc
  clear hc
  go_enter Tryz.func160, Tryz.ntmps160
  go_wp2
  all_goals go_ret2
  all_goals exact ⟨rfl, rfl⟩
theorem tnF_13 (f : Nat) : TnF (.iface 25 (.float .f64 f)) f := fun w => by
  go_enter Tryz.func160, Tryz.ntmps160
  go_wp2
  all_goals go_ret2
  all_goals exact ⟨rfl, rfl⟩
theorem tnU_0 : TnU .nilIface 0 true := fun w => by
  go_enter Tryz.func157, Tryz.ntmps157
  go_wp2
  all_goals go_ret3
  all_goals exact ⟨rfl, rfl⟩
theorem tnU_1 (b : Bool) : TnU (.iface 4 (.bool b)) (if b then 1 else 0) true := fun w => by
  cases b
  all_goals
    go_enter Tryz.func157, Tryz.ntmps157
    go_wp2
    all_goals go_ret3
    all_goals exact ⟨rfl, rfl⟩
theorem tnU_2_no (n : Int) (h0 : -9223372036854775808 ≤ n) (h1 : n < 0) : TnU (.iface 3 (.int .i64 n)) 0 false := fun w => by
  go_enter Tryz.func157, Tryz.ntmps157
  go_wp2
  all_goals go_ret3
  all_goals exact ⟨rfl, rfl⟩
theorem tnU_2 (n : Int) (h0 : 0 ≤ n) (h1 : n ≤ 9223372036854775807) : TnU (.iface 3 (.int .i64 n)) (IntKind.u8.wrap n) true := fun w => by
  have hn : ¬ n < 0 := by omega
  go_enter Tryz.func157, Tryz.ntmps157
  go_wp2
  all_goals go_ret3
  all_goals exact ⟨rfl, rfl⟩
theorem tnU_3_no (n : Int) (h0 : -128 ≤ n) (h1 : n < 0) : TnU (.iface 81 (.int .i8 n)) 0 false := fun w => by
  go_enter Tryz.func157, Tryz.ntmps157
  go_wp2
  all_goals go_ret3
  all_goals exact ⟨rfl, rfl⟩
theorem tnU_3 (n : Int) (h0 : 0 ≤ n) (h1 : n ≤ 127) : TnU (.iface 81 (.int .i8 n)) (n) true := fun w => by
  have hn : ¬ n < 0 := by omega
  go_enter Tryz.func157, Tryz.ntmps157
  go_wp2
  all_goals go_ret3
  all_goals exact ⟨rfl, rfl⟩
theorem tnU_4_no (n : Int) (h0 : -32768 ≤ n) (h1 : n < 0) : TnU (.iface 82 (.int .i16 n)) 0 false := fun w => by
  go_enter Tryz.func157, Tryz.ntmps157
  go_wp2
  all_goals go_ret3
  all_goals exact ⟨rfl, rfl⟩
theorem tnU_4 (n : Int) (h0 : 0 ≤ n) (h1 : n ≤ 32767) : TnU (.iface 82 (.int .i16 n)) (IntKind.u8.wrap n) true := fun w => by
  have hn : ¬ n < 0 := by omega
  go_enter Tryz.func157, Tryz.ntmps157
  go_wp2
  all_goals go_ret3
  all_goals exact ⟨rfl, rfl⟩
theorem tnU_5_no (n : Int) (h0 : -2147483648 ≤ n) (h1 : n < 0) : TnU (.iface 21 (.int .i32 n)) 0 false := fun w => by
  go_enter Tryz.func157, Tryz.ntmps157
  go_wp2
  all_goals go_ret3
  all_goals exact ⟨rfl, rfl⟩
theorem tnU_5 (n : Int) (h0 : 0 ≤ n) (h1 : n ≤ 2147483647) : TnU (.iface 21 (.int .i32 n)) (IntKind.u8.wrap n) true := fun w => by
  have hn : ¬ n < 0 := by omega
  go_enter Tryz.func157, Tryz.ntmps157
  go_wp2
  all_goals go_ret3
  all_goals exact ⟨rfl, rfl⟩
theorem tnU_6_no (n : Int) (h0 : -9223372036854775808 ≤ n) (h1 : n < 0) : TnU (.iface 2 (.int .i64 n)) 0 false := fun w => by
  go_enter Tryz.func157, Tryz.ntmps157
  go_wp2
  all_goals go_ret3
  all_goals exact ⟨rfl, rfl⟩
theorem tnU_6 (n : Int) (h0 : 0 ≤ n) (h1 : n ≤ 9223372036854775807) : TnU (.iface 2 (.int .i64 n)) (IntKind.u8.wrap n) true := fun w => by
  have hn : ¬ n < 0 := by omega
  go_enter Tryz.func157, Tryz.ntmps157
  go_wp2
  all_goals go_ret3
  all_goals exact ⟨rfl, rfl⟩
theorem tnU_7 (n : Int) (h0 : 0 ≤ n) (h1 : n < 18446744073709551616) : TnU (.iface 80 (.int .u64 n)) (IntKind.u8.wrap n) true := fun w => by
  go_enter Tryz.func157, Tryz.ntmps157
  go_wp2
  all_goals go_ret3
  all_goals exact ⟨rfl, rfl⟩
theorem tnU_8 (n : Int) (h0 : 0 ≤ n) (h1 : n < 256) : TnU (.iface 5 (.int .u8 n)) (n) true := fun w => by
  go_enter Tryz.func157, Tryz.ntmps157
  go_wp2
  all_goals go_ret3
  all_goals exact ⟨rfl, rfl⟩
theorem tnU_9 (n : Int) (h0 : 0 ≤ n) (h1 : n < 65536) : TnU (.iface 126 (.int .u16 n)) (IntKind.u8.wrap n) true := fun w => by
  go_enter Tryz.func157, Tryz.ntmps157
  go_wp2
  all_goals go_ret3
  all_goals exact ⟨rfl, rfl⟩
theorem tnU_10 (n : Int) (h0 : 0 ≤ n) (h1 : n < 4294967296) : TnU (.iface 127 (.int .u32 n)) (IntKind.u8.wrap n) true := fun w => by
  go_enter Tryz.func157, Tryz.ntmps157
  go_wp2
  all_goals go_ret3
  all_goals exact ⟨rfl, rfl⟩
theorem tnU_11 (n : Int) (h0 : 0 ≤ n) (h1 : n < 18446744073709551616) : TnU (.iface 24 (.int .u64 n)) (IntKind.u8.wrap n) true := fun w => by
  go_enter Tryz.func157, Tryz.ntmps157
  go_wp2
  all_goals go_ret3
  all_goals exact ⟨rfl, rfl⟩
theorem tnU_12_no (f : Nat) (h : (FloatKind.f32.format.order f 0 == some Ordering.lt) = true) : TnU (.iface 66 (.float .f32 f)) 0 false := fun w => by
  go_enter Tryz.func157, Tryz.ntmps157
  go_wp2
  all_goals go_ret3
  all_goals exact ⟨rfl, rfl⟩
theorem tnU_12 (f : Nat) (n : Int) (h : (FloatKind.f32.format.order f 0 == some Ordering.lt) = false) (hn : floatToIntVal .f32 f .u8 = some n) : TnU (.iface 66 (.float .f32 f)) n true := fun w => by
  have hc := fun w => run_convert_float_int (P := Tryz.prog) w 66 5 .f32 .u8 f n (by rw [Tryz.underlying66]; rfl) Tryz.underlying5 hn
  clear hn
  go_enter Tryz.func157, Tryz.ntmps157
  go_wp2
  all_goals go_ret3
  all_goals exact ⟨rfl, rfl⟩
theorem tnU_13_no (f : Nat) (h : (FloatKind.f64.format.order f 0 == some Ordering.lt) = true) : TnU (.iface 25 (.float .f64 f)) 0 false := fun w => by
  go_enter Tryz.func157, Tryz.ntmps157
  go_wp2
  all_goals go_ret3
  all_goals exact ⟨rfl, rfl⟩
theorem tnU_13 (f : Nat) (n : Int) (h : (FloatKind.f64.format.order f 0 == some Ordering.lt) = false) (hn : floatToIntVal .f64 f .u8 = some n) : TnU (.iface 25 (.float .f64 f)) n true := fun w => by
  have hc := fun w => run_convert_float_int (P := Tryz.prog) w 25 5 .f64 .u8 f n (by rw [Tryz.underlying25]; rfl) Tryz.underlying5 hn
  clear hn
  go_enter Tryz.func157, Tryz.ntmps157
  go_wp2
  all_goals go_ret3
  all_goals exact ⟨rfl, rfl⟩
theorem tnI_14 (s : ByteArray) (w : World) : Calls Tryz.prog 154 #[.iface 9 (.string s)] w fun e w' => e = .returned (.tuple #[.int .i64 0, .bool false]) ∧ w' = w := by
  go_enter Tryz.func154, Tryz.ntmps154
  go_wp2
  all_goals go_ret2
  all_goals exact ⟨rfl, rfl⟩
theorem tnF_14 (s : ByteArray) (w : World) : Calls Tryz.prog 160 #[.iface 9 (.string s)] w fun e w' => e = .returned (.tuple #[.float .f64 0, .bool false]) ∧ w' = w := by
  go_enter Tryz.func160, Tryz.ntmps160
  go_wp2
  all_goals go_ret2
  all_goals exact ⟨rfl, rfl⟩
theorem tnU_14 (s : ByteArray) (w : World) : Calls Tryz.prog 157 #[.iface 9 (.string s)] w fun e w' => e = .returned (.tuple #[.int .u8 0, .bool true, .bool false]) ∧ w' = w := by
  go_enter Tryz.func157, Tryz.ntmps157
  go_wp2
  all_goals go_ret3
  all_goals exact ⟨rfl, rfl⟩
end Go.Proofs.YtnggkkdcddpjlaaGreatDoor

/- cast.ToIntE, ToUint8E, ToFloat64E and ToNumberE of int, uint8, float64 at plain values: the same answers, that hang on the value alone. -/
namespace Go.Proofs.YtnggkkdcddpjlaaGreatDoor
open Go.RowKit
set_option maxRecDepth 100000
set_option linter.unusedVariables false
set_option linter.unusedSimpArgs false
/-- An error, or none. -/
def ErrAny (bad : Bool) (v : Value) : Prop := if bad = true then ∃ T p, v = .iface T p else v = .nilIface
def ResPost (w : World) (v : Value) (bad : Bool) (e : Ending) (w' : World) : Prop := ∃ er, e = .returned (.tuple #[v, er]) ∧ ErrAny bad er ∧ Below w.heap.size w w'
/-- What the casts' walks hold of the world. -/
structure CW (w : World) : Prop where
  g : Good w
  p : PW w
theorem CW.on {w w' : World} (h : CW w) (hb : Below w.heap.size w w') : CW w' := ⟨h.g.on hb, h.p.on hb⟩
theorem errNew (t : ByteArray) (w : World) : Calls Tryz.prog 82 #[.string t] w fun e w' => (∃ T p, e = .returned (.iface T p)) ∧ Below w.heap.size w w' := by
  obtain ⟨Q, hQ⟩ : ∃ Q : Ending → World → Prop, Q = fun e w' => (∃ T p, e = .returned (.iface T p)) ∧ Below w.heap.size w w' := ⟨_, rfl⟩
  rw [← hQ]
  have HQ := Lib.hid hQ
  clear hQ
  go_enter Tryz.func82, Tryz.ntmps82
  go_wp2
  rw [HQ.out]
  exact ⟨⟨_, _, rfl⟩, (Below.refl _ _).alloc (Nat.le_refl _) _⟩
/-- A text that a parser reads so. -/
def Parses (g : Nat) (s : ByteArray) (v : Value) (bad : Bool) : Prop := ∀ w, CW w → Calls Tryz.prog g #[.string s] w (ResPost w v bad)
theorem parses_of {g : Nat} {s : ByteArray} {v : Value} {bad : Bool} (h : ∀ w, Good w → Calls Tryz.prog g #[.string s] w (NumPost w v bad)) : Parses g s v bad := fun w hw => by
  refine (h w hw.g).mono ?_
  rintro e w' ⟨er, h1, h2, h3⟩
  refine ⟨er, h1, ?_, h3⟩
  unfold ErrIs at h2
  unfold ErrAny
  split at h2
  · rename_i hb
    rw [if_pos hb]
    obtain ⟨N, rfl⟩ := h2
    exact ⟨_, _, rfl⟩
  · rename_i hb
    rw [if_neg hb]
    exact h2
theorem pn_int (s : ByteArray) (v : Int) (bad : Bool) (h : Parses 115 s (.int .i64 v) bad) : Parses 120 s (.int .i64 v) bad := fun w hw => by
  have H := Lib.hid (h w hw)
  clear h hw
  obtain ⟨Q, hQ⟩ : ∃ Q, Q = ResPost w (.int .i64 v) bad := ⟨_, rfl⟩
  rw [← hQ]
  have HQ := Lib.hid hQ
  clear hQ
  cases bad
  · go_enter Tryz.func120, Tryz.ntmps120
    go_wp2_with (go_at_call 115; refine H.out.mono ?_; rintro e w' ⟨er, rfl, rfl, hb⟩)
    rw [HQ.out]
    exact ⟨_, rfl, rfl, hb⟩
  · go_enter Tryz.func120, Tryz.ntmps120
    go_wp2_with (go_at_call 115; refine H.out.mono ?_; rintro e w' ⟨er, rfl, ⟨T, p, rfl⟩, hb⟩)
    rw [HQ.out]
    exact ⟨_, rfl, ⟨_, _, rfl⟩, hb⟩
theorem pn_u8 (s : ByteArray) (v : Int) (bad : Bool) (h : Parses 117 s (.int .u8 v) bad) : Parses 123 s (.int .u8 v) bad := fun w hw => by
  have H := Lib.hid (h w hw)
  clear h hw
  obtain ⟨Q, hQ⟩ : ∃ Q, Q = ResPost w (.int .u8 v) bad := ⟨_, rfl⟩
  rw [← hQ]
  have HQ := Lib.hid hQ
  clear hQ
  cases bad
  · go_enter Tryz.func123, Tryz.ntmps123
    go_wp2_with (go_at_call 117; refine H.out.mono ?_; rintro e w' ⟨er, rfl, rfl, hb⟩)
    rw [HQ.out]
    exact ⟨_, rfl, rfl, hb⟩
  · go_enter Tryz.func123, Tryz.ntmps123
    go_wp2_with (go_at_call 117; refine H.out.mono ?_; rintro e w' ⟨er, rfl, ⟨T, p, rfl⟩, hb⟩)
    rw [HQ.out]
    exact ⟨_, rfl, ⟨_, _, rfl⟩, hb⟩
theorem ta25 (v : Nat) (w : World) : (Instr.typeAssert (.iface 25 (.float .f64 v)) 20 25 false).run Tryz.prog w = .ok (.float .f64 v) w := by kernel_rfl
theorem pf_119 (s : ByteArray) (v : Nat) (bad : Bool) (h : ∀ w, Good w → PW w → Calls Tryz.prog 133 #[.string s, .int .i64 64] w (NumPost w (.float .f64 v) bad)) : Parses 119 s (.float .f64 v) bad := fun w hw => by
  have H := Lib.hid (h w hw.g hw.p)
  have hta := fun w => ta25 v w
  clear h hw
  obtain ⟨Q, hQ⟩ : ∃ Q, Q = ResPost w (.float .f64 v) bad := ⟨_, rfl⟩
  rw [← hQ]
  have HQ := Lib.hid hQ
  clear hQ
  cases bad
  · go_enter Tryz.func119, Tryz.ntmps119
    go_wp2_with (go_at_call 133; refine H.out.mono ?_; rintro e w' ⟨er, rfl, rfl, hb⟩)
    rw [HQ.out]
    exact ⟨_, rfl, rfl, hb⟩
  · go_enter Tryz.func119, Tryz.ntmps119
    go_wp2_with (go_at_call 133; refine H.out.mono ?_; rintro e w' ⟨er, rfl, ⟨N, rfl⟩, hb⟩)
    rw [HQ.out]
    exact ⟨_, rfl, ⟨_, _, rfl⟩, hb⟩
theorem pf_124 (s : ByteArray) (v : Nat) (bad : Bool) (h : ∀ w, Good w → PW w → Calls Tryz.prog 133 #[.string s, .int .i64 64] w (NumPost w (.float .f64 v) bad)) : Parses 124 s (.float .f64 v) bad := fun w hw => by
  have H := Lib.hid (h w hw.g hw.p)
  have hta := fun w => ta25 v w
  clear h hw
  obtain ⟨Q, hQ⟩ : ∃ Q, Q = ResPost w (.float .f64 v) bad := ⟨_, rfl⟩
  rw [← hQ]
  have HQ := Lib.hid hQ
  clear hQ
  cases bad
  · go_enter Tryz.func124, Tryz.ntmps124
    go_wp2_with (go_at_call 133; refine H.out.mono ?_; rintro e w' ⟨er, rfl, rfl, hb⟩)
    rw [HQ.out]
    exact ⟨_, rfl, rfl, hb⟩
  · go_enter Tryz.func124, Tryz.ntmps124
    go_wp2_with (go_at_call 133; refine H.out.mono ?_; rintro e w' ⟨er, rfl, ⟨N, rfl⟩, hb⟩)
    rw [HQ.out]
    exact ⟨_, rfl, ⟨_, _, rfl⟩, hb⟩
theorem tEI (box G : Value) (v : Int) (h : TnI box v) (w : World) : Calls Tryz.prog 114 #[box, G] w (ResPost w (.int .i64 v) false) := by
  have H := Lib.hid h
  obtain ⟨Q, hQ⟩ : ∃ Q, Q = ResPost w (.int .i64 v) false := ⟨_, rfl⟩
  rw [← hQ]
  have HQ := Lib.hid hQ
  clear hQ h
  go_enter Tryz.func114, Tryz.ntmps114
  go_wp2_with (go_at_call 154; refine (H.out _).mono ?_; rintro e w' ⟨rfl, rfl⟩)
  rw [HQ.out]
  exact ⟨_, rfl, rfl, Below.refl _ _⟩
theorem tEI_s0_115 (s : ByteArray) (hne : s.toList.isEmpty = true) (w : World) : Calls Tryz.prog 114 #[.iface 9 (.string s), .func (.func 115) #[] #[]] w (ResPost w (.int .i64 0) false) := by
  obtain ⟨Q, hQ⟩ : ∃ Q, Q = ResPost w (.int .i64 0) false := ⟨_, rfl⟩
  rw [← hQ]
  have HQ := Lib.hid hQ
  clear hQ
  go_enter Tryz.func114, Tryz.ntmps114
  go_wp2_with (first | (go_at_call 154; refine (tnI_14 _ _).mono ?_; rintro e w1 ⟨rfl, rfl⟩) | (go_at_call 79; go_in))
  rw [HQ.out]
  exact ⟨_, rfl, rfl, Below.refl _ _⟩
theorem tEI_s1_115 (s : ByteArray) (hne : s.toList.isEmpty = false) (v : Int) (hP : Parses 115 s (.int .i64 v) false) (w : World) (hw : CW w) : Calls Tryz.prog 114 #[.iface 9 (.string s), .func (.func 115) #[] #[]] w (ResPost w (.int .i64 v) false) := by
  have H := Lib.hid hP
  have HW := Lib.hid hw
  obtain ⟨Q, hQ⟩ : ∃ Q, Q = ResPost w (.int .i64 v) false := ⟨_, rfl⟩
  rw [← hQ]
  have HQ := Lib.hid hQ
  clear hQ hP hw
  go_enter Tryz.func114, Tryz.ntmps114
  go_wp2_with (first | (go_at_call 154; refine (tnI_14 _ _).mono ?_; rintro e w1 ⟨rfl, rfl⟩) | (go_at_call 79; go_in) | (go_at_call 115; refine (H.out _ HW.out).mono ?_; rintro e w2 ⟨er, rfl, rfl, hb⟩))
  rw [HQ.out]
  exact ⟨_, rfl, rfl, hb⟩
theorem tEI_s2_115 (s : ByteArray) (hne : s.toList.isEmpty = false) (v : Int) (hP : Parses 115 s (.int .i64 v) true) (w : World) (hw : CW w) : Calls Tryz.prog 114 #[.iface 9 (.string s), .func (.func 115) #[] #[]] w (ResPost w (.int .i64 0) true) := by
  have H := Lib.hid hP
  have HW := Lib.hid hw
  obtain ⟨Q, hQ⟩ : ∃ Q, Q = ResPost w (.int .i64 0) true := ⟨_, rfl⟩
  rw [← hQ]
  have HQ := Lib.hid hQ
  clear hQ hP hw
  go_enter Tryz.func114, Tryz.ntmps114
  go_wp2_with (first | (go_at_call 154; refine (tnI_14 _ _).mono ?_; rintro e w1 ⟨rfl, rfl⟩) | (go_at_call 79; go_in) | (go_at_call 115; refine (H.out _ HW.out).mono ?_; rintro e w2 ⟨er, rfl, ⟨T, p, rfl⟩, hb⟩; have HB := Lib.hid hb; clear hb) | (go_at_call 82; refine (errNew _ _).mono ?_; rintro e w3 ⟨⟨T2, p2, rfl⟩, hb3⟩; have HB3 := Lib.hid (belowOn HB.out hb3); clear hb3))
  rw [HQ.out]
  exact ⟨_, rfl, ⟨_, _, rfl⟩, HB3.out⟩
theorem tEI_s0_120 (s : ByteArray) (hne : s.toList.isEmpty = true) (w : World) : Calls Tryz.prog 114 #[.iface 9 (.string s), .func (.func 120) #[] #[]] w (ResPost w (.int .i64 0) false) := by
  obtain ⟨Q, hQ⟩ : ∃ Q, Q = ResPost w (.int .i64 0) false := ⟨_, rfl⟩
  rw [← hQ]
  have HQ := Lib.hid hQ
  clear hQ
  go_enter Tryz.func114, Tryz.ntmps114
  go_wp2_with (first | (go_at_call 154; refine (tnI_14 _ _).mono ?_; rintro e w1 ⟨rfl, rfl⟩) | (go_at_call 79; go_in))
  rw [HQ.out]
  exact ⟨_, rfl, rfl, Below.refl _ _⟩
theorem tEI_s1_120 (s : ByteArray) (hne : s.toList.isEmpty = false) (v : Int) (hP : Parses 120 s (.int .i64 v) false) (w : World) (hw : CW w) : Calls Tryz.prog 114 #[.iface 9 (.string s), .func (.func 120) #[] #[]] w (ResPost w (.int .i64 v) false) := by
  have H := Lib.hid hP
  have HW := Lib.hid hw
  obtain ⟨Q, hQ⟩ : ∃ Q, Q = ResPost w (.int .i64 v) false := ⟨_, rfl⟩
  rw [← hQ]
  have HQ := Lib.hid hQ
  clear hQ hP hw
  go_enter Tryz.func114, Tryz.ntmps114
  go_wp2_with (first | (go_at_call 154; refine (tnI_14 _ _).mono ?_; rintro e w1 ⟨rfl, rfl⟩) | (go_at_call 79; go_in) | (go_at_call 120; refine (H.out _ HW.out).mono ?_; rintro e w2 ⟨er, rfl, rfl, hb⟩))
  rw [HQ.out]
  exact ⟨_, rfl, rfl, hb⟩
theorem tEI_s2_120 (s : ByteArray) (hne : s.toList.isEmpty = false) (v : Int) (hP : Parses 120 s (.int .i64 v) true) (w : World) (hw : CW w) : Calls Tryz.prog 114 #[.iface 9 (.string s), .func (.func 120) #[] #[]] w (ResPost w (.int .i64 0) true) := by
  have H := Lib.hid hP
  have HW := Lib.hid hw
  obtain ⟨Q, hQ⟩ : ∃ Q, Q = ResPost w (.int .i64 0) true := ⟨_, rfl⟩
  rw [← hQ]
  have HQ := Lib.hid hQ
  clear hQ hP hw
  go_enter Tryz.func114, Tryz.ntmps114
  go_wp2_with (first | (go_at_call 154; refine (tnI_14 _ _).mono ?_; rintro e w1 ⟨rfl, rfl⟩) | (go_at_call 79; go_in) | (go_at_call 120; refine (H.out _ HW.out).mono ?_; rintro e w2 ⟨er, rfl, ⟨T, p, rfl⟩, hb⟩; have HB := Lib.hid hb; clear hb) | (go_at_call 82; refine (errNew _ _).mono ?_; rintro e w3 ⟨⟨T2, p2, rfl⟩, hb3⟩; have HB3 := Lib.hid (belowOn HB.out hb3); clear hb3))
  rw [HQ.out]
  exact ⟨_, rfl, ⟨_, _, rfl⟩, HB3.out⟩
theorem tEU (box G : Value) (v : Int) (h : TnU box v true) (w : World) : Calls Tryz.prog 116 #[box, G] w (ResPost w (.int .u8 v) false) := by
  have H := Lib.hid h
  obtain ⟨Q, hQ⟩ : ∃ Q, Q = ResPost w (.int .u8 v) false := ⟨_, rfl⟩
  rw [← hQ]
  have HQ := Lib.hid hQ
  clear hQ h
  go_enter Tryz.func116, Tryz.ntmps116
  go_wp2_with (go_at_call 157; refine (H.out _).mono ?_; rintro e w' ⟨rfl, rfl⟩)
  rw [HQ.out]
  exact ⟨_, rfl, rfl, Below.refl _ _⟩
theorem tEU_s0_117 (s : ByteArray) (hne : s.toList.isEmpty = true) (w : World) : Calls Tryz.prog 116 #[.iface 9 (.string s), .func (.func 117) #[] #[]] w (ResPost w (.int .u8 0) false) := by
  obtain ⟨Q, hQ⟩ : ∃ Q, Q = ResPost w (.int .u8 0) false := ⟨_, rfl⟩
  rw [← hQ]
  have HQ := Lib.hid hQ
  clear hQ
  go_enter Tryz.func116, Tryz.ntmps116
  go_wp2_with (first | (go_at_call 157; refine (tnU_14 _ _).mono ?_; rintro e w1 ⟨rfl, rfl⟩) | (go_at_call 79; go_in))
  rw [HQ.out]
  exact ⟨_, rfl, rfl, Below.refl _ _⟩
theorem tEU_s1_117 (s : ByteArray) (hne : s.toList.isEmpty = false) (v : Int) (hP : Parses 117 s (.int .u8 v) false) (w : World) (hw : CW w) : Calls Tryz.prog 116 #[.iface 9 (.string s), .func (.func 117) #[] #[]] w (ResPost w (.int .u8 v) false) := by
  have H := Lib.hid hP
  have HW := Lib.hid hw
  obtain ⟨Q, hQ⟩ : ∃ Q, Q = ResPost w (.int .u8 v) false := ⟨_, rfl⟩
  rw [← hQ]
  have HQ := Lib.hid hQ
  clear hQ hP hw
  go_enter Tryz.func116, Tryz.ntmps116
  go_wp2_with (first | (go_at_call 157; refine (tnU_14 _ _).mono ?_; rintro e w1 ⟨rfl, rfl⟩) | (go_at_call 79; go_in) | (go_at_call 117; refine (H.out _ HW.out).mono ?_; rintro e w2 ⟨er, rfl, rfl, hb⟩))
  rw [HQ.out]
  exact ⟨_, rfl, rfl, hb⟩
theorem tEU_s2_117 (s : ByteArray) (hne : s.toList.isEmpty = false) (v : Int) (hP : Parses 117 s (.int .u8 v) true) (w : World) (hw : CW w) : Calls Tryz.prog 116 #[.iface 9 (.string s), .func (.func 117) #[] #[]] w (ResPost w (.int .u8 0) true) := by
  have H := Lib.hid hP
  have HW := Lib.hid hw
  obtain ⟨Q, hQ⟩ : ∃ Q, Q = ResPost w (.int .u8 0) true := ⟨_, rfl⟩
  rw [← hQ]
  have HQ := Lib.hid hQ
  clear hQ hP hw
  go_enter Tryz.func116, Tryz.ntmps116
  go_wp2_with (first | (go_at_call 157; refine (tnU_14 _ _).mono ?_; rintro e w1 ⟨rfl, rfl⟩) | (go_at_call 79; go_in) | (go_at_call 117; refine (H.out _ HW.out).mono ?_; rintro e w2 ⟨er, rfl, ⟨T, p, rfl⟩, hb⟩; have HB := Lib.hid hb; clear hb) | (go_at_call 82; refine (errNew _ _).mono ?_; rintro e w3 ⟨⟨T2, p2, rfl⟩, hb3⟩; have HB3 := Lib.hid (belowOn HB.out hb3); clear hb3))
  rw [HQ.out]
  exact ⟨_, rfl, ⟨_, _, rfl⟩, HB3.out⟩
theorem tEU_s0_123 (s : ByteArray) (hne : s.toList.isEmpty = true) (w : World) : Calls Tryz.prog 116 #[.iface 9 (.string s), .func (.func 123) #[] #[]] w (ResPost w (.int .u8 0) false) := by
  obtain ⟨Q, hQ⟩ : ∃ Q, Q = ResPost w (.int .u8 0) false := ⟨_, rfl⟩
  rw [← hQ]
  have HQ := Lib.hid hQ
  clear hQ
  go_enter Tryz.func116, Tryz.ntmps116
  go_wp2_with (first | (go_at_call 157; refine (tnU_14 _ _).mono ?_; rintro e w1 ⟨rfl, rfl⟩) | (go_at_call 79; go_in))
  rw [HQ.out]
  exact ⟨_, rfl, rfl, Below.refl _ _⟩
theorem tEU_s1_123 (s : ByteArray) (hne : s.toList.isEmpty = false) (v : Int) (hP : Parses 123 s (.int .u8 v) false) (w : World) (hw : CW w) : Calls Tryz.prog 116 #[.iface 9 (.string s), .func (.func 123) #[] #[]] w (ResPost w (.int .u8 v) false) := by
  have H := Lib.hid hP
  have HW := Lib.hid hw
  obtain ⟨Q, hQ⟩ : ∃ Q, Q = ResPost w (.int .u8 v) false := ⟨_, rfl⟩
  rw [← hQ]
  have HQ := Lib.hid hQ
  clear hQ hP hw
  go_enter Tryz.func116, Tryz.ntmps116
  go_wp2_with (first | (go_at_call 157; refine (tnU_14 _ _).mono ?_; rintro e w1 ⟨rfl, rfl⟩) | (go_at_call 79; go_in) | (go_at_call 123; refine (H.out _ HW.out).mono ?_; rintro e w2 ⟨er, rfl, rfl, hb⟩))
  rw [HQ.out]
  exact ⟨_, rfl, rfl, hb⟩
theorem tEU_s2_123 (s : ByteArray) (hne : s.toList.isEmpty = false) (v : Int) (hP : Parses 123 s (.int .u8 v) true) (w : World) (hw : CW w) : Calls Tryz.prog 116 #[.iface 9 (.string s), .func (.func 123) #[] #[]] w (ResPost w (.int .u8 0) true) := by
  have H := Lib.hid hP
  have HW := Lib.hid hw
  obtain ⟨Q, hQ⟩ : ∃ Q, Q = ResPost w (.int .u8 0) true := ⟨_, rfl⟩
  rw [← hQ]
  have HQ := Lib.hid hQ
  clear hQ hP hw
  go_enter Tryz.func116, Tryz.ntmps116
  go_wp2_with (first | (go_at_call 157; refine (tnU_14 _ _).mono ?_; rintro e w1 ⟨rfl, rfl⟩) | (go_at_call 79; go_in) | (go_at_call 123; refine (H.out _ HW.out).mono ?_; rintro e w2 ⟨er, rfl, ⟨T, p, rfl⟩, hb⟩; have HB := Lib.hid hb; clear hb) | (go_at_call 82; refine (errNew _ _).mono ?_; rintro e w3 ⟨⟨T2, p2, rfl⟩, hb3⟩; have HB3 := Lib.hid (belowOn HB.out hb3); clear hb3))
  rw [HQ.out]
  exact ⟨_, rfl, ⟨_, _, rfl⟩, HB3.out⟩
theorem tEF (box G : Value) (v : Nat) (h : TnF box v) (w : World) : Calls Tryz.prog 118 #[box, G] w (ResPost w (.float .f64 v) false) := by
  have H := Lib.hid h
  obtain ⟨Q, hQ⟩ : ∃ Q, Q = ResPost w (.float .f64 v) false := ⟨_, rfl⟩
  rw [← hQ]
  have HQ := Lib.hid hQ
  clear hQ h
  go_enter Tryz.func118, Tryz.ntmps118
  go_wp2_with (go_at_call 160; refine (H.out _).mono ?_; rintro e w' ⟨rfl, rfl⟩)
  rw [HQ.out]
  exact ⟨_, rfl, rfl, Below.refl _ _⟩
theorem tEF_s0_119 (s : ByteArray) (hne : s.toList.isEmpty = true) (w : World) : Calls Tryz.prog 118 #[.iface 9 (.string s), .func (.func 119) #[] #[]] w (ResPost w (.float .f64 0) false) := by
  obtain ⟨Q, hQ⟩ : ∃ Q, Q = ResPost w (.float .f64 0) false := ⟨_, rfl⟩
  rw [← hQ]
  have HQ := Lib.hid hQ
  clear hQ
  go_enter Tryz.func118, Tryz.ntmps118
  go_wp2_with (first | (go_at_call 160; refine (tnF_14 _ _).mono ?_; rintro e w1 ⟨rfl, rfl⟩) | (go_at_call 79; go_in))
  rw [HQ.out]
  exact ⟨_, rfl, rfl, Below.refl _ _⟩
theorem tEF_s1_119 (s : ByteArray) (hne : s.toList.isEmpty = false) (v : Nat) (hP : Parses 119 s (.float .f64 v) false) (w : World) (hw : CW w) : Calls Tryz.prog 118 #[.iface 9 (.string s), .func (.func 119) #[] #[]] w (ResPost w (.float .f64 v) false) := by
  have H := Lib.hid hP
  have HW := Lib.hid hw
  obtain ⟨Q, hQ⟩ : ∃ Q, Q = ResPost w (.float .f64 v) false := ⟨_, rfl⟩
  rw [← hQ]
  have HQ := Lib.hid hQ
  clear hQ hP hw
  go_enter Tryz.func118, Tryz.ntmps118
  go_wp2_with (first | (go_at_call 160; refine (tnF_14 _ _).mono ?_; rintro e w1 ⟨rfl, rfl⟩) | (go_at_call 79; go_in) | (go_at_call 119; refine (H.out _ HW.out).mono ?_; rintro e w2 ⟨er, rfl, rfl, hb⟩))
  rw [HQ.out]
  exact ⟨_, rfl, rfl, hb⟩
theorem tEF_s2_119 (s : ByteArray) (hne : s.toList.isEmpty = false) (v : Nat) (hP : Parses 119 s (.float .f64 v) true) (w : World) (hw : CW w) : Calls Tryz.prog 118 #[.iface 9 (.string s), .func (.func 119) #[] #[]] w (ResPost w (.float .f64 0) true) := by
  have H := Lib.hid hP
  have HW := Lib.hid hw
  obtain ⟨Q, hQ⟩ : ∃ Q, Q = ResPost w (.float .f64 0) true := ⟨_, rfl⟩
  rw [← hQ]
  have HQ := Lib.hid hQ
  clear hQ hP hw
  go_enter Tryz.func118, Tryz.ntmps118
  go_wp2_with (first | (go_at_call 160; refine (tnF_14 _ _).mono ?_; rintro e w1 ⟨rfl, rfl⟩) | (go_at_call 79; go_in) | (go_at_call 119; refine (H.out _ HW.out).mono ?_; rintro e w2 ⟨er, rfl, ⟨T, p, rfl⟩, hb⟩; have HB := Lib.hid hb; clear hb) | (go_at_call 82; refine (errNew _ _).mono ?_; rintro e w3 ⟨⟨T2, p2, rfl⟩, hb3⟩; have HB3 := Lib.hid (belowOn HB.out hb3); clear hb3))
  rw [HQ.out]
  exact ⟨_, rfl, ⟨_, _, rfl⟩, HB3.out⟩
theorem tEF_s0_124 (s : ByteArray) (hne : s.toList.isEmpty = true) (w : World) : Calls Tryz.prog 118 #[.iface 9 (.string s), .func (.func 124) #[] #[]] w (ResPost w (.float .f64 0) false) := by
  obtain ⟨Q, hQ⟩ : ∃ Q, Q = ResPost w (.float .f64 0) false := ⟨_, rfl⟩
  rw [← hQ]
  have HQ := Lib.hid hQ
  clear hQ
  go_enter Tryz.func118, Tryz.ntmps118
  go_wp2_with (first | (go_at_call 160; refine (tnF_14 _ _).mono ?_; rintro e w1 ⟨rfl, rfl⟩) | (go_at_call 79; go_in))
  rw [HQ.out]
  exact ⟨_, rfl, rfl, Below.refl _ _⟩
theorem tEF_s1_124 (s : ByteArray) (hne : s.toList.isEmpty = false) (v : Nat) (hP : Parses 124 s (.float .f64 v) false) (w : World) (hw : CW w) : Calls Tryz.prog 118 #[.iface 9 (.string s), .func (.func 124) #[] #[]] w (ResPost w (.float .f64 v) false) := by
  have H := Lib.hid hP
  have HW := Lib.hid hw
  obtain ⟨Q, hQ⟩ : ∃ Q, Q = ResPost w (.float .f64 v) false := ⟨_, rfl⟩
  rw [← hQ]
  have HQ := Lib.hid hQ
  clear hQ hP hw
  go_enter Tryz.func118, Tryz.ntmps118
  go_wp2_with (first | (go_at_call 160; refine (tnF_14 _ _).mono ?_; rintro e w1 ⟨rfl, rfl⟩) | (go_at_call 79; go_in) | (go_at_call 124; refine (H.out _ HW.out).mono ?_; rintro e w2 ⟨er, rfl, rfl, hb⟩))
  rw [HQ.out]
  exact ⟨_, rfl, rfl, hb⟩
theorem tEF_s2_124 (s : ByteArray) (hne : s.toList.isEmpty = false) (v : Nat) (hP : Parses 124 s (.float .f64 v) true) (w : World) (hw : CW w) : Calls Tryz.prog 118 #[.iface 9 (.string s), .func (.func 124) #[] #[]] w (ResPost w (.float .f64 0) true) := by
  have H := Lib.hid hP
  have HW := Lib.hid hw
  obtain ⟨Q, hQ⟩ : ∃ Q, Q = ResPost w (.float .f64 0) true := ⟨_, rfl⟩
  rw [← hQ]
  have HQ := Lib.hid hQ
  clear hQ hP hw
  go_enter Tryz.func118, Tryz.ntmps118
  go_wp2_with (first | (go_at_call 160; refine (tnF_14 _ _).mono ?_; rintro e w1 ⟨rfl, rfl⟩) | (go_at_call 79; go_in) | (go_at_call 124; refine (H.out _ HW.out).mono ?_; rintro e w2 ⟨er, rfl, ⟨T, p, rfl⟩, hb⟩; have HB := Lib.hid hb; clear hb) | (go_at_call 82; refine (errNew _ _).mono ?_; rintro e w3 ⟨⟨T2, p2, rfl⟩, hb3⟩; have HB3 := Lib.hid (belowOn HB.out hb3); clear hb3))
  rw [HQ.out]
  exact ⟨_, rfl, ⟨_, _, rfl⟩, HB3.out⟩
end Go.Proofs.YtnggkkdcddpjlaaGreatDoor

/- cast.ToIntE, ToUint8E, ToFloat64E, ToNumberE and their doors in impl at plain values. -/
namespace Go.Proofs.YtnggkkdcddpjlaaGreatDoor
open Go.RowKit
set_option maxRecDepth 100000
set_option linter.unusedVariables false
set_option linter.unusedSimpArgs false
theorem tEU_no_2 (n : Int) (G : Value) (h : TnU (.iface 3 (.int .i64 n)) 0 false) (w : World) : Calls Tryz.prog 116 #[.iface 3 (.int .i64 n), G] w (ResPost w (.int .u8 0) true) := by
  have H := Lib.hid h
  obtain ⟨Q, hQ⟩ : ∃ Q, Q = ResPost w (.int .u8 0) true := ⟨_, rfl⟩
  rw [← hQ]
  have HQ := Lib.hid hQ
  clear hQ h
  go_enter Tryz.func116, Tryz.ntmps116
  go_wp2_with (first | (go_at_call 157; refine (H.out _).mono ?_; rintro e w' ⟨rfl, rfl⟩) | (go_at_call 79; go_in))
  rw [HQ.out]
  exact ⟨_, rfl, ⟨_, _, rfl⟩, Below.refl _ _⟩
theorem tEU_no_3 (n : Int) (G : Value) (h : TnU (.iface 81 (.int .i8 n)) 0 false) (w : World) : Calls Tryz.prog 116 #[.iface 81 (.int .i8 n), G] w (ResPost w (.int .u8 0) true) := by
  have H := Lib.hid h
  obtain ⟨Q, hQ⟩ : ∃ Q, Q = ResPost w (.int .u8 0) true := ⟨_, rfl⟩
  rw [← hQ]
  have HQ := Lib.hid hQ
  clear hQ h
  go_enter Tryz.func116, Tryz.ntmps116
  go_wp2_with (first | (go_at_call 157; refine (H.out _).mono ?_; rintro e w' ⟨rfl, rfl⟩) | (go_at_call 79; go_in))
  rw [HQ.out]
  exact ⟨_, rfl, ⟨_, _, rfl⟩, Below.refl _ _⟩
theorem tEU_no_4 (n : Int) (G : Value) (h : TnU (.iface 82 (.int .i16 n)) 0 false) (w : World) : Calls Tryz.prog 116 #[.iface 82 (.int .i16 n), G] w (ResPost w (.int .u8 0) true) := by
  have H := Lib.hid h
  obtain ⟨Q, hQ⟩ : ∃ Q, Q = ResPost w (.int .u8 0) true := ⟨_, rfl⟩
  rw [← hQ]
  have HQ := Lib.hid hQ
  clear hQ h
  go_enter Tryz.func116, Tryz.ntmps116
  go_wp2_with (first | (go_at_call 157; refine (H.out _).mono ?_; rintro e w' ⟨rfl, rfl⟩) | (go_at_call 79; go_in))
  rw [HQ.out]
  exact ⟨_, rfl, ⟨_, _, rfl⟩, Below.refl _ _⟩
theorem tEU_no_5 (n : Int) (G : Value) (h : TnU (.iface 21 (.int .i32 n)) 0 false) (w : World) : Calls Tryz.prog 116 #[.iface 21 (.int .i32 n), G] w (ResPost w (.int .u8 0) true) := by
  have H := Lib.hid h
  obtain ⟨Q, hQ⟩ : ∃ Q, Q = ResPost w (.int .u8 0) true := ⟨_, rfl⟩
  rw [← hQ]
  have HQ := Lib.hid hQ
  clear hQ h
  go_enter Tryz.func116, Tryz.ntmps116
  go_wp2_with (first | (go_at_call 157; refine (H.out _).mono ?_; rintro e w' ⟨rfl, rfl⟩) | (go_at_call 79; go_in))
  rw [HQ.out]
  exact ⟨_, rfl, ⟨_, _, rfl⟩, Below.refl _ _⟩
theorem tEU_no_6 (n : Int) (G : Value) (h : TnU (.iface 2 (.int .i64 n)) 0 false) (w : World) : Calls Tryz.prog 116 #[.iface 2 (.int .i64 n), G] w (ResPost w (.int .u8 0) true) := by
  have H := Lib.hid h
  obtain ⟨Q, hQ⟩ : ∃ Q, Q = ResPost w (.int .u8 0) true := ⟨_, rfl⟩
  rw [← hQ]
  have HQ := Lib.hid hQ
  clear hQ h
  go_enter Tryz.func116, Tryz.ntmps116
  go_wp2_with (first | (go_at_call 157; refine (H.out _).mono ?_; rintro e w' ⟨rfl, rfl⟩) | (go_at_call 79; go_in))
  rw [HQ.out]
  exact ⟨_, rfl, ⟨_, _, rfl⟩, Below.refl _ _⟩
theorem tEU_no_12 (n : Nat) (G : Value) (h : TnU (.iface 66 (.float .f32 n)) 0 false) (w : World) : Calls Tryz.prog 116 #[.iface 66 (.float .f32 n), G] w (ResPost w (.int .u8 0) true) := by
  have H := Lib.hid h
  obtain ⟨Q, hQ⟩ : ∃ Q, Q = ResPost w (.int .u8 0) true := ⟨_, rfl⟩
  rw [← hQ]
  have HQ := Lib.hid hQ
  clear hQ h
  go_enter Tryz.func116, Tryz.ntmps116
  go_wp2_with (first | (go_at_call 157; refine (H.out _).mono ?_; rintro e w' ⟨rfl, rfl⟩) | (go_at_call 79; go_in))
  rw [HQ.out]
  exact ⟨_, rfl, ⟨_, _, rfl⟩, Below.refl _ _⟩
theorem tEU_no_13 (n : Nat) (G : Value) (h : TnU (.iface 25 (.float .f64 n)) 0 false) (w : World) : Calls Tryz.prog 116 #[.iface 25 (.float .f64 n), G] w (ResPost w (.int .u8 0) true) := by
  have H := Lib.hid h
  obtain ⟨Q, hQ⟩ : ∃ Q, Q = ResPost w (.int .u8 0) true := ⟨_, rfl⟩
  rw [← hQ]
  have HQ := Lib.hid hQ
  clear hQ h
  go_enter Tryz.func116, Tryz.ntmps116
  go_wp2_with (first | (go_at_call 157; refine (H.out _).mono ?_; rintro e w' ⟨rfl, rfl⟩) | (go_at_call 79; go_in))
  rw [HQ.out]
  exact ⟨_, rfl, ⟨_, _, rfl⟩, Below.refl _ _⟩
/-- A cast's door answers so. -/
def Casts (f : Nat) (a : Value) (v : Value) (bad : Bool) : Prop := ∀ w, CW w → Calls Tryz.prog f #[a] w (ResPost w v bad)
theorem door58 (box : Value) (v : Int) (bad : Bool) (h : ∀ w, CW w → Calls Tryz.prog 114 #[box, .func (.func 115) #[] #[]] w (ResPost w (.int .i64 v) bad)) : Casts 58 box (.int .i64 v) bad := fun w hw => by
  have H := Lib.hid (h w hw)
  clear h hw
  obtain ⟨Q, hQ⟩ : ∃ Q, Q = ResPost w (.int .i64 v) bad := ⟨_, rfl⟩
  rw [← hQ]
  have HQ := Lib.hid hQ
  clear hQ
  cases bad
  · go_enter Tryz.func58, Tryz.ntmps58
    go_wp2_with (go_at_call 114; refine H.out.mono ?_; rintro e w' ⟨er, rfl, rfl, hb⟩)
    rw [HQ.out]
    exact ⟨_, rfl, rfl, hb⟩
  · go_enter Tryz.func58, Tryz.ntmps58
    go_wp2_with (go_at_call 114; refine H.out.mono ?_; rintro e w' ⟨er, rfl, ⟨T, p, rfl⟩, hb⟩)
    rw [HQ.out]
    exact ⟨_, rfl, ⟨_, _, rfl⟩, hb⟩
theorem door61 (box : Value) (v : Int) (bad : Bool) (h : ∀ w, CW w → Calls Tryz.prog 114 #[box, .func (.func 120) #[] #[]] w (ResPost w (.int .i64 v) bad)) : Casts 61 box (.int .i64 v) bad := fun w hw => by
  have H := Lib.hid (h w hw)
  clear h hw
  obtain ⟨Q, hQ⟩ : ∃ Q, Q = ResPost w (.int .i64 v) bad := ⟨_, rfl⟩
  rw [← hQ]
  have HQ := Lib.hid hQ
  clear hQ
  cases bad
  · go_enter Tryz.func61, Tryz.ntmps61
    go_wp2_with (go_at_call 114; refine H.out.mono ?_; rintro e w' ⟨er, rfl, rfl, hb⟩)
    rw [HQ.out]
    exact ⟨_, rfl, rfl, hb⟩
  · go_enter Tryz.func61, Tryz.ntmps61
    go_wp2_with (go_at_call 114; refine H.out.mono ?_; rintro e w' ⟨er, rfl, ⟨T, p, rfl⟩, hb⟩)
    rw [HQ.out]
    exact ⟨_, rfl, ⟨_, _, rfl⟩, hb⟩
theorem imp25 (e : Ent) (hF : e.Fine) (v : Int) (bad : Bool) (h : Casts 58 e.box (.int .i64 v) bad) (w : World) (hw : CW w) : Calls Tryz.prog 25 #[e.any] w fun r w' => r = .returned (.tuple #[.int .i64 v, .bool (!bad)]) ∧ Below w.heap.size w w' := by
  have HV := Lib.hid (value_any e hF)
  have HB := Lib.hid h
  have HW := Lib.hid hw
  obtain ⟨b, hb⟩ : ∃ b, b = e.box := ⟨_, rfl⟩
  rw [← hb] at HB HV
  clear hb h hw
  cases bad
  · go_enter Tryz.func25, Tryz.ntmps25
    go_wp2_with (first | (go_at_call 40; refine (HV.out _).mono ?_; rintro r w1 ⟨rfl, hb1⟩; have hg1 := (HW.out.on (below_alloc w _)).on hb1) | (go_at_call 58; refine (HB.out _ hg1).mono ?_; rintro r w2 ⟨er, rfl, rfl, hb2⟩))
    go_quiet (fail)
    go_wp2
    go_ret2
    exact ⟨rfl, belowOn (belowOn (below_alloc w _) (belowOn hb1 hb2)) (below_drewN _ _)⟩
  · go_enter Tryz.func25, Tryz.ntmps25
    go_wp2_with (first | (go_at_call 40; refine (HV.out _).mono ?_; rintro r w1 ⟨rfl, hb1⟩; have hg1 := (HW.out.on (below_alloc w _)).on hb1) | (go_at_call 58; refine (HB.out _ hg1).mono ?_; rintro r w2 ⟨er, rfl, ⟨T, p, rfl⟩, hb2⟩))
    go_quiet (fail)
    go_wp2
    go_ret2
    exact ⟨rfl, belowOn (belowOn (below_alloc w _) (belowOn hb1 hb2)) (below_drewN _ _)⟩
theorem imp28 (e : Ent) (hF : e.Fine) (v : Int) (bad : Bool) (h : Casts 61 e.box (.int .i64 v) bad) (w : World) (hw : CW w) : Calls Tryz.prog 28 #[e.any] w fun r w' => r = .returned (.tuple #[.int .i64 v, .bool (!bad)]) ∧ Below w.heap.size w w' := by
  have HV := Lib.hid (value_any e hF)
  have HB := Lib.hid h
  have HW := Lib.hid hw
  obtain ⟨b, hb⟩ : ∃ b, b = e.box := ⟨_, rfl⟩
  rw [← hb] at HB HV
  clear hb h hw
  cases bad
  · go_enter Tryz.func28, Tryz.ntmps28
    go_wp2_with (first | (go_at_call 40; refine (HV.out _).mono ?_; rintro r w1 ⟨rfl, hb1⟩; have hg1 := (HW.out.on (below_alloc w _)).on hb1) | (go_at_call 61; refine (HB.out _ hg1).mono ?_; rintro r w2 ⟨er, rfl, rfl, hb2⟩))
    go_quiet (fail)
    go_wp2
    go_ret2
    exact ⟨rfl, belowOn (belowOn (below_alloc w _) (belowOn hb1 hb2)) (below_drewN _ _)⟩
  · go_enter Tryz.func28, Tryz.ntmps28
    go_wp2_with (first | (go_at_call 40; refine (HV.out _).mono ?_; rintro r w1 ⟨rfl, hb1⟩; have hg1 := (HW.out.on (below_alloc w _)).on hb1) | (go_at_call 61; refine (HB.out _ hg1).mono ?_; rintro r w2 ⟨er, rfl, ⟨T, p, rfl⟩, hb2⟩))
    go_quiet (fail)
    go_wp2
    go_ret2
    exact ⟨rfl, belowOn (belowOn (below_alloc w _) (belowOn hb1 hb2)) (below_drewN _ _)⟩
theorem door59 (box : Value) (v : Int) (bad : Bool) (h : ∀ w, CW w → Calls Tryz.prog 116 #[box, .func (.func 117) #[] #[]] w (ResPost w (.int .u8 v) bad)) : Casts 59 box (.int .u8 v) bad := fun w hw => by
  have H := Lib.hid (h w hw)
  clear h hw
  obtain ⟨Q, hQ⟩ : ∃ Q, Q = ResPost w (.int .u8 v) bad := ⟨_, rfl⟩
  rw [← hQ]
  have HQ := Lib.hid hQ
  clear hQ
  cases bad
  · go_enter Tryz.func59, Tryz.ntmps59
    go_wp2_with (go_at_call 116; refine H.out.mono ?_; rintro e w' ⟨er, rfl, rfl, hb⟩)
    rw [HQ.out]
    exact ⟨_, rfl, rfl, hb⟩
  · go_enter Tryz.func59, Tryz.ntmps59
    go_wp2_with (go_at_call 116; refine H.out.mono ?_; rintro e w' ⟨er, rfl, ⟨T, p, rfl⟩, hb⟩)
    rw [HQ.out]
    exact ⟨_, rfl, ⟨_, _, rfl⟩, hb⟩
theorem door62 (box : Value) (v : Int) (bad : Bool) (h : ∀ w, CW w → Calls Tryz.prog 116 #[box, .func (.func 123) #[] #[]] w (ResPost w (.int .u8 v) bad)) : Casts 62 box (.int .u8 v) bad := fun w hw => by
  have H := Lib.hid (h w hw)
  clear h hw
  obtain ⟨Q, hQ⟩ : ∃ Q, Q = ResPost w (.int .u8 v) bad := ⟨_, rfl⟩
  rw [← hQ]
  have HQ := Lib.hid hQ
  clear hQ
  cases bad
  · go_enter Tryz.func62, Tryz.ntmps62
    go_wp2_with (go_at_call 116; refine H.out.mono ?_; rintro e w' ⟨er, rfl, rfl, hb⟩)
    rw [HQ.out]
    exact ⟨_, rfl, rfl, hb⟩
  · go_enter Tryz.func62, Tryz.ntmps62
    go_wp2_with (go_at_call 116; refine H.out.mono ?_; rintro e w' ⟨er, rfl, ⟨T, p, rfl⟩, hb⟩)
    rw [HQ.out]
    exact ⟨_, rfl, ⟨_, _, rfl⟩, hb⟩
theorem imp26 (e : Ent) (hF : e.Fine) (v : Int) (h0 : 0 ≤ v) (h1 : v < 256) (bad : Bool) (h : Casts 59 e.box (.int .u8 v) bad) (w : World) (hw : CW w) : Calls Tryz.prog 26 #[e.any] w fun r w' => r = .returned (.tuple #[.int .u64 v, .bool (!bad)]) ∧ Below w.heap.size w w' := by
  have HV := Lib.hid (value_any e hF)
  have HB := Lib.hid h
  have HW := Lib.hid hw
  obtain ⟨b, hb⟩ : ∃ b, b = e.box := ⟨_, rfl⟩
  rw [← hb] at HB HV
  clear hb h hw
  cases bad
  · go_enter Tryz.func26, Tryz.ntmps26
    go_wp2_with (first | (go_at_call 40; refine (HV.out _).mono ?_; rintro r w1 ⟨rfl, hb1⟩; have hg1 := (HW.out.on (below_alloc w _)).on hb1) | (go_at_call 59; refine (HB.out _ hg1).mono ?_; rintro r w2 ⟨er, rfl, rfl, hb2⟩))
    go_quiet (fail)
    go_wp2
    go_ret2
    exact ⟨rfl, belowOn (belowOn (below_alloc w _) (belowOn hb1 hb2)) (below_drewN _ _)⟩
  · go_enter Tryz.func26, Tryz.ntmps26
    go_wp2_with (first | (go_at_call 40; refine (HV.out _).mono ?_; rintro r w1 ⟨rfl, hb1⟩; have hg1 := (HW.out.on (below_alloc w _)).on hb1) | (go_at_call 59; refine (HB.out _ hg1).mono ?_; rintro r w2 ⟨er, rfl, ⟨T, p, rfl⟩, hb2⟩))
    go_quiet (fail)
    go_wp2
    go_ret2
    exact ⟨rfl, belowOn (belowOn (below_alloc w _) (belowOn hb1 hb2)) (below_drewN _ _)⟩
theorem imp29 (e : Ent) (hF : e.Fine) (v : Int) (h0 : 0 ≤ v) (h1 : v < 256) (bad : Bool) (h : Casts 62 e.box (.int .u8 v) bad) (w : World) (hw : CW w) : Calls Tryz.prog 29 #[e.any] w fun r w' => r = .returned (.tuple #[.int .u64 v, .bool (!bad)]) ∧ Below w.heap.size w w' := by
  have HV := Lib.hid (value_any e hF)
  have HB := Lib.hid h
  have HW := Lib.hid hw
  obtain ⟨b, hb⟩ : ∃ b, b = e.box := ⟨_, rfl⟩
  rw [← hb] at HB HV
  clear hb h hw
  cases bad
  · go_enter Tryz.func29, Tryz.ntmps29
    go_wp2_with (first | (go_at_call 40; refine (HV.out _).mono ?_; rintro r w1 ⟨rfl, hb1⟩; have hg1 := (HW.out.on (below_alloc w _)).on hb1) | (go_at_call 62; refine (HB.out _ hg1).mono ?_; rintro r w2 ⟨er, rfl, rfl, hb2⟩))
    go_quiet (fail)
    go_wp2
    go_ret2
    exact ⟨rfl, belowOn (belowOn (below_alloc w _) (belowOn hb1 hb2)) (below_drewN _ _)⟩
  · go_enter Tryz.func29, Tryz.ntmps29
    go_wp2_with (first | (go_at_call 40; refine (HV.out _).mono ?_; rintro r w1 ⟨rfl, hb1⟩; have hg1 := (HW.out.on (below_alloc w _)).on hb1) | (go_at_call 62; refine (HB.out _ hg1).mono ?_; rintro r w2 ⟨er, rfl, ⟨T, p, rfl⟩, hb2⟩))
    go_quiet (fail)
    go_wp2
    go_ret2
    exact ⟨rfl, belowOn (belowOn (below_alloc w _) (belowOn hb1 hb2)) (below_drewN _ _)⟩
theorem door60 (box : Value) (v : Nat) (bad : Bool) (h : ∀ w, CW w → Calls Tryz.prog 118 #[box, .func (.func 119) #[] #[]] w (ResPost w (.float .f64 v) bad)) : Casts 60 box (.float .f64 v) bad := fun w hw => by
  have H := Lib.hid (h w hw)
  clear h hw
  obtain ⟨Q, hQ⟩ : ∃ Q, Q = ResPost w (.float .f64 v) bad := ⟨_, rfl⟩
  rw [← hQ]
  have HQ := Lib.hid hQ
  clear hQ
  cases bad
  · go_enter Tryz.func60, Tryz.ntmps60
    go_wp2_with (go_at_call 118; refine H.out.mono ?_; rintro e w' ⟨er, rfl, rfl, hb⟩)
    rw [HQ.out]
    exact ⟨_, rfl, rfl, hb⟩
  · go_enter Tryz.func60, Tryz.ntmps60
    go_wp2_with (go_at_call 118; refine H.out.mono ?_; rintro e w' ⟨er, rfl, ⟨T, p, rfl⟩, hb⟩)
    rw [HQ.out]
    exact ⟨_, rfl, ⟨_, _, rfl⟩, hb⟩
theorem door63 (box : Value) (v : Nat) (bad : Bool) (h : ∀ w, CW w → Calls Tryz.prog 118 #[box, .func (.func 124) #[] #[]] w (ResPost w (.float .f64 v) bad)) : Casts 63 box (.float .f64 v) bad := fun w hw => by
  have H := Lib.hid (h w hw)
  clear h hw
  obtain ⟨Q, hQ⟩ : ∃ Q, Q = ResPost w (.float .f64 v) bad := ⟨_, rfl⟩
  rw [← hQ]
  have HQ := Lib.hid hQ
  clear hQ
  cases bad
  · go_enter Tryz.func63, Tryz.ntmps63
    go_wp2_with (go_at_call 118; refine H.out.mono ?_; rintro e w' ⟨er, rfl, rfl, hb⟩)
    rw [HQ.out]
    exact ⟨_, rfl, rfl, hb⟩
  · go_enter Tryz.func63, Tryz.ntmps63
    go_wp2_with (go_at_call 118; refine H.out.mono ?_; rintro e w' ⟨er, rfl, ⟨T, p, rfl⟩, hb⟩)
    rw [HQ.out]
    exact ⟨_, rfl, ⟨_, _, rfl⟩, hb⟩
theorem imp27 (e : Ent) (hF : e.Fine) (v : Nat) (bad : Bool) (h : Casts 60 e.box (.float .f64 v) bad) (w : World) (hw : CW w) : Calls Tryz.prog 27 #[e.any] w fun r w' => r = .returned (.tuple #[.float .f64 v, .bool (!bad)]) ∧ Below w.heap.size w w' := by
  have HV := Lib.hid (value_any e hF)
  have HB := Lib.hid h
  have HW := Lib.hid hw
  obtain ⟨b, hb⟩ : ∃ b, b = e.box := ⟨_, rfl⟩
  rw [← hb] at HB HV
  clear hb h hw
  cases bad
  · go_enter Tryz.func27, Tryz.ntmps27
    go_wp2_with (first | (go_at_call 40; refine (HV.out _).mono ?_; rintro r w1 ⟨rfl, hb1⟩; have hg1 := (HW.out.on (below_alloc w _)).on hb1) | (go_at_call 60; refine (HB.out _ hg1).mono ?_; rintro r w2 ⟨er, rfl, rfl, hb2⟩))
    go_quiet (fail)
    go_wp2
    go_ret2
    exact ⟨rfl, belowOn (belowOn (below_alloc w _) (belowOn hb1 hb2)) (below_drewN _ _)⟩
  · go_enter Tryz.func27, Tryz.ntmps27
    go_wp2_with (first | (go_at_call 40; refine (HV.out _).mono ?_; rintro r w1 ⟨rfl, hb1⟩; have hg1 := (HW.out.on (below_alloc w _)).on hb1) | (go_at_call 60; refine (HB.out _ hg1).mono ?_; rintro r w2 ⟨er, rfl, ⟨T, p, rfl⟩, hb2⟩))
    go_quiet (fail)
    go_wp2
    go_ret2
    exact ⟨rfl, belowOn (belowOn (below_alloc w _) (belowOn hb1 hb2)) (below_drewN _ _)⟩
theorem imp30 (e : Ent) (hF : e.Fine) (v : Nat) (bad : Bool) (h : Casts 63 e.box (.float .f64 v) bad) (w : World) (hw : CW w) : Calls Tryz.prog 30 #[e.any] w fun r w' => r = .returned (.tuple #[.float .f64 v, .bool (!bad)]) ∧ Below w.heap.size w w' := by
  have HV := Lib.hid (value_any e hF)
  have HB := Lib.hid h
  have HW := Lib.hid hw
  obtain ⟨b, hb⟩ : ∃ b, b = e.box := ⟨_, rfl⟩
  rw [← hb] at HB HV
  clear hb h hw
  cases bad
  · go_enter Tryz.func30, Tryz.ntmps30
    go_wp2_with (first | (go_at_call 40; refine (HV.out _).mono ?_; rintro r w1 ⟨rfl, hb1⟩; have hg1 := (HW.out.on (below_alloc w _)).on hb1) | (go_at_call 63; refine (HB.out _ hg1).mono ?_; rintro r w2 ⟨er, rfl, rfl, hb2⟩))
    go_quiet (fail)
    go_wp2
    go_ret2
    exact ⟨rfl, belowOn (belowOn (below_alloc w _) (belowOn hb1 hb2)) (below_drewN _ _)⟩
  · go_enter Tryz.func30, Tryz.ntmps30
    go_wp2_with (first | (go_at_call 40; refine (HV.out _).mono ?_; rintro r w1 ⟨rfl, hb1⟩; have hg1 := (HW.out.on (below_alloc w _)).on hb1) | (go_at_call 63; refine (HB.out _ hg1).mono ?_; rintro r w2 ⟨er, rfl, ⟨T, p, rfl⟩, hb2⟩))
    go_quiet (fail)
    go_wp2
    go_ret2
    exact ⟨rfl, belowOn (belowOn (below_alloc w _) (belowOn hb1 hb2)) (below_drewN _ _)⟩
end Go.Proofs.YtnggkkdcddpjlaaGreatDoor

/- What the casts to numbers make of a plain value: for each there is an answer, and it is the same at either door. -/
namespace Go.Proofs.YtnggkkdcddpjlaaGreatDoor
open Go.RowKit
set_option maxRecDepth 100000
set_option linter.unusedVariables false
set_option linter.unusedSimpArgs false
/-- A plain value near nought. -/
structure Ent.Low (e : Ent) : Prop where
  i0 : -9223372036854775808 ≤ e.i
  i1 : e.i ≤ 9223372036854775807
  u0 : 0 ≤ e.u
  u1 : e.u < 18446744073709551616
  near : ∃ h, Near e.f e.g h
def AnsI (box : Value) : Prop := ∃ (v : Int) (bad : Bool), Casts 58 box (.int .i64 v) bad ∧ Casts 61 box (.int .i64 v) bad
def AnsU (box : Value) : Prop := ∃ (v : Int) (bad : Bool), 0 ≤ v ∧ v < 256 ∧ Casts 59 box (.int .u8 v) bad ∧ Casts 62 box (.int .u8 v) bad
def AnsF (box : Value) : Prop := ∃ (v : Nat) (bad : Bool), Casts 60 box (.float .f64 v) bad ∧ Casts 63 box (.float .f64 v) bad
theorem ansI (box : Value) (v : Int) (h : TnI box v) : AnsI box := ⟨v, false, door58 _ _ _ fun w _ => tEI _ _ _ h w, door61 _ _ _ fun w _ => tEI _ _ _ h w⟩
theorem ansU (box : Value) (v : Int) (h0 : 0 ≤ v) (h1 : v < 256) (h : TnU box v true) : AnsU box := ⟨v, false, h0, h1, door59 _ _ _ fun w _ => tEU _ _ _ h w, door62 _ _ _ fun w _ => tEU _ _ _ h w⟩
theorem ansF (box : Value) (v : Nat) (h : TnF box v) : AnsF box := ⟨v, false, door60 _ _ _ fun w _ => tEF _ _ _ h w, door63 _ _ _ fun w _ => tEF _ _ _ h w⟩
theorem ansU_no (box : Value) (h : ∀ G w, Calls Tryz.prog 116 #[box, G] w (ResPost w (.int .u8 0) true)) : AnsU box := ⟨0, true, by omega, by omega, door59 _ _ _ fun w _ => h _ w, door62 _ _ _ fun w _ => h _ w⟩
theorem s8_rng (n : Int) : -128 ≤ IntKind.i8.wrap n ∧ IntKind.i8.wrap n ≤ 127 := by
  simp [IntKind.wrap, IntKind.bits, IntKind.signed]
  split <;> omega
theorem s16_rng (n : Int) : -32768 ≤ IntKind.i16.wrap n ∧ IntKind.i16.wrap n ≤ 32767 := by
  simp [IntKind.wrap, IntKind.bits, IntKind.signed]
  split <;> omega
theorem u8_rng (n : Int) : 0 ≤ IntKind.u8.wrap n ∧ IntKind.u8.wrap n < 256 := by
  unfold IntKind.wrap
  simp only [IntKind.signed, IntKind.bits]
  constructor <;> (try simp) <;> omega
theorem u16_rng (n : Int) : 0 ≤ IntKind.u16.wrap n ∧ IntKind.u16.wrap n < 65536 := by
  unfold IntKind.wrap
  simp only [IntKind.signed, IntKind.bits]
  constructor <;> (try simp) <;> omega
theorem u32_rng (n : Int) : 0 ≤ IntKind.u32.wrap n ∧ IntKind.u32.wrap n < 4294967296 := by
  unfold IntKind.wrap
  simp only [IntKind.signed, IntKind.bits]
  constructor <;> (try simp) <;> omega
theorem ansI_14 (s : ByteArray) (hs : s.size ≤ 400) : AnsI (.iface 9 (.string s)) := by
  cases hne : s.toList.isEmpty with
  | true => exact ⟨0, false, door58 _ _ _ fun w _ => tEI_s0_115 s hne w, door61 _ _ _ fun w _ => tEI_s0_120 s hne w⟩
  | false =>
    obtain ⟨v, bad, h0, h1, hP⟩ := castInt_any s (by omega)
    have hP := parses_of hP
    have hP2 := pn_int s v bad hP
    cases bad with
    | false => exact ⟨v, false, door58 _ _ _ fun w hw => tEI_s1_115 s hne v hP w hw, door61 _ _ _ fun w hw => tEI_s1_120 s hne v hP2 w hw⟩
    | true => exact ⟨0, true, door58 _ _ _ fun w hw => tEI_s2_115 s hne v hP w hw, door61 _ _ _ fun w hw => tEI_s2_120 s hne v hP2 w hw⟩
theorem ansU_14 (s : ByteArray) (hs : s.size ≤ 400) : AnsU (.iface 9 (.string s)) := by
  cases hne : s.toList.isEmpty with
  | true => exact ⟨0, false, by omega, by omega, door59 _ _ _ fun w _ => tEU_s0_117 s hne w, door62 _ _ _ fun w _ => tEU_s0_123 s hne w⟩
  | false =>
    obtain ⟨v, bad, h0, h1, hP⟩ := castU8_any s (by omega)
    have hP := parses_of hP
    have hP2 := pn_u8 s v bad hP
    cases bad with
    | false => exact ⟨v, false, h0, by omega, door59 _ _ _ fun w hw => tEU_s1_117 s hne v hP w hw, door62 _ _ _ fun w hw => tEU_s1_123 s hne v hP2 w hw⟩
    | true => exact ⟨0, true, by omega, by omega, door59 _ _ _ fun w hw => tEU_s2_117 s hne v hP w hw, door62 _ _ _ fun w hw => tEU_s2_123 s hne v hP2 w hw⟩
theorem ansF_14 (s : ByteArray) (hs : s.size ≤ 400) : AnsF (.iface 9 (.string s)) := by
  cases hne : s.toList.isEmpty with
  | true => exact ⟨0, false, door60 _ _ _ fun w _ => tEF_s0_119 s hne w, door63 _ _ _ fun w _ => tEF_s0_124 s hne w⟩
  | false =>
    obtain ⟨v, bad, hP⟩ := parseFloat_any s (by omega)
    have hP1 := pf_119 s v bad hP
    have hP2 := pf_124 s v bad hP
    cases bad with
    | false => exact ⟨v, false, door60 _ _ _ fun w hw => tEF_s1_119 s hne v hP1 w hw, door63 _ _ _ fun w hw => tEF_s1_124 s hne v hP2 w hw⟩
    | true => exact ⟨0, true, door60 _ _ _ fun w hw => tEF_s2_119 s hne v hP1 w hw, door63 _ _ _ fun w hw => tEF_s2_124 s hne v hP2 w hw⟩
theorem entI (e : Ent) (h : e.Fine) (hn : e.Low) : AnsI e.box := by
  have hc := h.cases
  have hs := h.s
  obtain ⟨i0, i1, u0, u1, g', near⟩ := hn
  unfold Ent.box
  generalize e.g = g at near ⊢
  clear h
  obtain ⟨key, k, i, u, f, s⟩ := e
  dsimp only at hc hs i0 i1 u0 u1 near ⊢
  rcases hc with rfl | rfl | rfl | rfl | rfl | rfl | rfl | rfl | rfl | rfl | rfl | rfl | rfl | rfl | rfl
  · exact ansI _ _ tnI_0
  · exact ansI _ _ (tnI_1 _)
  · exact ansI _ _ (tnI_2 i i0 i1)
  · exact ansI _ _ (tnI_3 (IntKind.i8.wrap i) (s8_rng i).1 (s8_rng i).2)
  · exact ansI _ _ (tnI_4 (IntKind.i16.wrap i) (s16_rng i).1 (s16_rng i).2)
  · exact ansI _ _ (tnI_5 (wrap32 i) (by unfold wrap32; omega) (by unfold wrap32; omega))
  · exact ansI _ _ (tnI_6 i i0 i1)
  · exact ansI _ _ (tnI_7 u u0 u1)
  · exact ansI _ _ (tnI_8 (IntKind.u8.wrap u) (u8_rng u).1 (u8_rng u).2)
  · exact ansI _ _ (tnI_9 (IntKind.u16.wrap u) (u16_rng u).1 (u16_rng u).2)
  · exact ansI _ _ (tnI_10 (IntKind.u32.wrap u) (u32_rng u).1 (u32_rng u).2)
  · exact ansI _ _ (tnI_11 u u0 u1)
  · obtain ⟨n, _, _, hv⟩ := near.j64
    exact ansI _ _ (tnI_12 g n hv)
  · obtain ⟨n, _, _, hv⟩ := near.i64
    exact ansI _ _ (tnI_13 f n hv)
  · exact ansI_14 s hs
theorem entF (e : Ent) (h : e.Fine) (hn : e.Low) : AnsF e.box := by
  have hc := h.cases
  have hs := h.s
  obtain ⟨i0, i1, u0, u1, g', near⟩ := hn
  unfold Ent.box
  generalize e.g = g at near ⊢
  clear h
  obtain ⟨key, k, i, u, f, s⟩ := e
  dsimp only at hc hs i0 i1 u0 u1 near ⊢
  rcases hc with rfl | rfl | rfl | rfl | rfl | rfl | rfl | rfl | rfl | rfl | rfl | rfl | rfl | rfl | rfl
  · exact ansF _ _ tnF_0
  · exact ansF _ _ (tnF_1 _)
  · exact ansF _ _ (tnF_2 i i0 i1)
  · exact ansF _ _ (tnF_3 (IntKind.i8.wrap i) (s8_rng i).1 (s8_rng i).2)
  · exact ansF _ _ (tnF_4 (IntKind.i16.wrap i) (s16_rng i).1 (s16_rng i).2)
  · exact ansF _ _ (tnF_5 (wrap32 i) (by unfold wrap32; omega) (by unfold wrap32; omega))
  · exact ansF _ _ (tnF_6 i i0 i1)
  · exact ansF _ _ (tnF_7 u u0 u1)
  · exact ansF _ _ (tnF_8 (IntKind.u8.wrap u) (u8_rng u).1 (u8_rng u).2)
  · exact ansF _ _ (tnF_9 (IntKind.u16.wrap u) (u16_rng u).1 (u16_rng u).2)
  · exact ansF _ _ (tnF_10 (IntKind.u32.wrap u) (u32_rng u).1 (u32_rng u).2)
  · exact ansF _ _ (tnF_11 u u0 u1)
  · exact ansF _ _ (tnF_12 g g' near.w1)
  · exact ansF _ _ (tnF_13 f)
  · exact ansF_14 s hs
theorem entU (e : Ent) (h : e.Fine) (hn : e.Low) : AnsU e.box := by
  have hc := h.cases
  have hs := h.s
  obtain ⟨i0, i1, u0, u1, g', near⟩ := hn
  unfold Ent.box
  generalize e.g = g at near ⊢
  clear h
  obtain ⟨key, k, i, u, f, s⟩ := e
  dsimp only at hc hs i0 i1 u0 u1 near ⊢
  rcases hc with rfl | rfl | rfl | rfl | rfl | rfl | rfl | rfl | rfl | rfl | rfl | rfl | rfl | rfl | rfl
  · exact ansU _ _ (by omega) (by omega) tnU_0
  · exact ansU _ _ (by split <;> omega) (by split <;> omega) (tnU_1 _)
  · by_cases hneg : i < 0
    · exact ansU_no _ fun G w => tEU_no_2 _ G (tnU_2_no i i0 hneg) w
    · exact ansU _ _ (u8_rng _).1 (u8_rng _).2 (tnU_2 i (by omega) i1)
  · by_cases hneg : (IntKind.i8.wrap i) < 0
    · exact ansU_no _ fun G w => tEU_no_3 _ G (tnU_3_no (IntKind.i8.wrap i) (s8_rng i).1 hneg) w
    · exact ansU _ _ (by omega) (Int.lt_of_le_of_lt (s8_rng i).2 (by omega)) (tnU_3 (IntKind.i8.wrap i) (by omega) (s8_rng i).2)
  · by_cases hneg : (IntKind.i16.wrap i) < 0
    · exact ansU_no _ fun G w => tEU_no_4 _ G (tnU_4_no (IntKind.i16.wrap i) (s16_rng i).1 hneg) w
    · exact ansU _ _ (u8_rng _).1 (u8_rng _).2 (tnU_4 (IntKind.i16.wrap i) (by omega) (s16_rng i).2)
  · by_cases hneg : (wrap32 i) < 0
    · exact ansU_no _ fun G w => tEU_no_5 _ G (tnU_5_no (wrap32 i) (by unfold wrap32; omega) hneg) w
    · exact ansU _ _ (u8_rng _).1 (u8_rng _).2 (tnU_5 (wrap32 i) (by omega) (by unfold wrap32; omega))
  · by_cases hneg : i < 0
    · exact ansU_no _ fun G w => tEU_no_6 _ G (tnU_6_no i i0 hneg) w
    · exact ansU _ _ (u8_rng _).1 (u8_rng _).2 (tnU_6 i (by omega) i1)
  · exact ansU _ _ (u8_rng _).1 (u8_rng _).2 (tnU_7 u u0 u1)
  · exact ansU _ _ (u8_rng u).1 (u8_rng u).2 (tnU_8 (IntKind.u8.wrap u) (u8_rng u).1 (u8_rng u).2)
  · exact ansU _ _ (u8_rng _).1 (u8_rng _).2 (tnU_9 (IntKind.u16.wrap u) (u16_rng u).1 (u16_rng u).2)
  · exact ansU _ _ (u8_rng _).1 (u8_rng _).2 (tnU_10 (IntKind.u32.wrap u) (u32_rng u).1 (u32_rng u).2)
  · exact ansU _ _ (u8_rng _).1 (u8_rng _).2 (tnU_11 u u0 u1)
  · cases ho : (FloatKind.f32.format.order g 0 == some Ordering.lt) with
    | true => exact ansU_no _ fun G w => tEU_no_12 _ G (tnU_12_no g ho) w
    | false =>
      obtain ⟨n, n0, n1, hv⟩ := near.v8 ho
      exact ansU _ _ n0 n1 (tnU_12 g n ho hv)
  · cases ho : (FloatKind.f64.format.order f 0 == some Ordering.lt) with
    | true => exact ansU_no _ fun G w => tEU_no_13 _ G (tnU_13_no f ho) w
    | false =>
      obtain ⟨n, n0, n1, hv⟩ := near.u8 ho
      exact ansU _ _ n0 n1 (tnU_13 f n ho hv)
  · exact ansU_14 s hs
end Go.Proofs.YtnggkkdcddpjlaaGreatDoor

/- The law FnCastNumber: its own functions (zzFits1, castNear, castSame, castLives) and its walk. -/
namespace Go.Proofs.YtnggkkdcddpjlaaGreatDoor
open Go.RowKit
set_option maxRecDepth 100000
set_option linter.unusedVariables false
set_option linter.unusedSimpArgs false
/-- An impl.Any as it comes. -/
abbrev rawAny (k i u : Int) (f : Nat) (s : ByteArray) (lp : Option Addr) (ln lc : Nat) (mp : Option Addr) (mn mc : Nat) : Value := .agg #[.int .i64 k, .int .i64 i, .int .u64 u, .float .f64 f, .string s, .slice lp ln lc, .slice mp mn mc]
theorem fits_any (k i u : Int) (f : Nat) (s : ByteArray) (lp : Option Addr) (ln lc : Nat) (mp : Option Addr) (mn mc : Nat) :
    ∃ b : Bool, ∀ w, Calls Tryz.prog 23 #[rawAny k i u f s lp ln lc mp mn mc] w fun e w' => e = .returned (.bool b) ∧ Below w.heap.size w w' := by
  by_cases h1 : (2147483647 : Int) < (s.size : Int)
  · refine ⟨false, fun w => ?_⟩
    go_enter Tryz.func23, Tryz.ntmps23
    go_wp2
    go_ret
    exact ⟨rfl, below_alloc w _⟩
  by_cases h2 : (2147483647 : Int) < (ln : Int)
  · refine ⟨false, fun w => ?_⟩
    go_enter Tryz.func23, Tryz.ntmps23
    go_wp2
    go_ret
    exact ⟨rfl, below_alloc w _⟩
  by_cases h3 : (2147483647 : Int) < (mn : Int)
  · refine ⟨false, fun w => ?_⟩
    go_enter Tryz.func23, Tryz.ntmps23
    go_wp2
    go_ret
    exact ⟨rfl, below_alloc w _⟩
  refine ⟨true, fun w => ?_⟩
  go_enter Tryz.func23, Tryz.ntmps23
  go_wp2
  go_ret
  exact ⟨rfl, below_alloc w _⟩
/-- castNear: castWithin at 127. -/
theorem near_any (k i u : Int) (f : Nat) (s : ByteArray) (l m : Value) (w : World) :
    Calls Tryz.prog 24 #[.agg #[.int .i64 k, .int .i64 i, .int .u64 u, .float .f64 f, .string s, l, m]] w fun e w' => e = .returned (.agg #[.int .i64 (cutK k), .int .i64 i, .int .u64 u, .float .f64 (cutF 4638637247447433216 f), .string (cutS s), .slice none 0 0, .slice none 0 0]) ∧ Below w.heap.size w w' := by
  have hW := fun w => within_any k i u f 4638637247447433216 s l m w
  obtain ⟨k2, hk2⟩ : ∃ k2, k2 = cutK k := ⟨_, rfl⟩
  obtain ⟨f2, hf2⟩ : ∃ f2, f2 = cutF 4638637247447433216 f := ⟨_, rfl⟩
  obtain ⟨s2, hs2⟩ : ∃ s2, s2 = cutS s := ⟨_, rfl⟩
  rw [← hk2, ← hf2, ← hs2] at hW ⊢
  clear hk2 hf2 hs2
  have HW := Lib.hid hW
  clear hW
  go_enter Tryz.func24, Tryz.ntmps24
  go_wp2_with (first | (go_at_call 57; refine (HW.out _).mono ?_; rintro e w2 ⟨rfl, hb⟩; have hB := Lib.hid (two_blocks hb)) | (refine wpList_store_row rfl 28 (.tmp 2) (.tmp 4) rfl (w.heap.size + 1) (anyC k2 i u f2 s2 (.slice none 0 0) (.slice none 0 0)) rfl rfl 28 _ hB.out size28 rfl (one_any _ _ _ _ _ rfl rfl) ?_))
  have hS := setRow_heap w2 (w.heap.size + 1) _ (anyC k2 i u f2 s2 (.slice none 0 0) (.slice none 0 0)) 28 (0, 0) hB.out
  refine bodyPost_ret (v := .agg (anyC k2 i u f2 s2 (.slice none 0 0) (.slice none 0 0))) (results_cell_row rfl _ _ _ _ _ _ _ rfl hS Tryz.underlying28 rfl size28) rfl ⟨rfl, ?_⟩
  exact below_setRow (belowOn (below_two w _ _) hb) (by omega) _
theorem floatbits64 (n : Nat) (w : World) : (callFunc 64 #[.float .f64 n]).run Tryz.prog w = .ok (.value (.int .u64 (n : Int))) w := by kernel_rfl
/-- castSame: a float is the same as itself. -/
theorem same_any (x : Nat) (w : World) : Calls Tryz.prog 31 #[.float .f64 x, .float .f64 x] w fun e w' => e = .returned (.bool true) ∧ w' = w := by
  have hfb := fun w => floatbits64 x w
  cases hb : (FloatKind.f64.format.order x x != some .eq)
  · go_enter Tryz.func31, Tryz.ntmps31
    go_wp2
    go_ret
    exact ⟨rfl, rfl⟩
  · go_enter Tryz.func31, Tryz.ntmps31
    go_wp2
    go_ret
    exact ⟨rfl, rfl⟩
theorem g_zero : floatToFloatBits .f64 0 .f32 = some 0 := by decide
theorem lives (w : World) (hw : CW w) : Calls Tryz.prog 32 #[] w fun e w' => e = .returned (.bool true) ∧ Below w.heap.size w w' := by
  have hF : (⟨⟨#[]⟩, 2, 7, 0, 0, ⟨#[]⟩⟩ : Ent).Fine := ⟨by decide, by decide, by unfold Ent.g; rw [g_zero]; rfl, by decide⟩
  have hB : (⟨⟨#[]⟩, 2, 7, 0, 0, ⟨#[]⟩⟩ : Ent).box = .iface 3 (.int .i64 7) := rfl
  have h1 := imp25 ⟨⟨#[]⟩, 2, 7, 0, 0, ⟨#[]⟩⟩ hF 7 false (by rw [hB]; exact door58 _ _ _ fun w _ => tEI _ _ _ (tnI_2 7 (by decide) (by decide)) w)
  have H := Lib.hid h1
  have HW := Lib.hid hw
  clear h1 hF hB hw
  go_enter Tryz.func32, Tryz.ntmps32
  go_wp2_with (go_at_call 25; refine (H.out _ HW.out).mono ?_; rintro r w1 ⟨rfl, hb1⟩)
  go_ret
  exact ⟨rfl, hb1⟩
/-- The six answers of a value. -/
structure Six (e : Ent) (n : Int) (u : Int) (f : Nat) (o1 o2 o3 : Bool) : Prop where
  ca : ∀ w, CW w → Calls Tryz.prog 25 #[e.any] w fun r w' => r = .returned (.tuple #[.int .i64 n, .bool o1]) ∧ Below w.heap.size w w'
  cb : ∀ w, CW w → Calls Tryz.prog 26 #[e.any] w fun r w' => r = .returned (.tuple #[.int .u64 u, .bool o2]) ∧ Below w.heap.size w w'
  cc : ∀ w, CW w → Calls Tryz.prog 27 #[e.any] w fun r w' => r = .returned (.tuple #[.float .f64 f, .bool o3]) ∧ Below w.heap.size w w'
  cd : ∀ w, CW w → Calls Tryz.prog 28 #[e.any] w fun r w' => r = .returned (.tuple #[.int .i64 n, .bool o1]) ∧ Below w.heap.size w w'
  ce : ∀ w, CW w → Calls Tryz.prog 29 #[e.any] w fun r w' => r = .returned (.tuple #[.int .u64 u, .bool o2]) ∧ Below w.heap.size w w'
  cf : ∀ w, CW w → Calls Tryz.prog 30 #[e.any] w fun r w' => r = .returned (.tuple #[.float .f64 f, .bool o3]) ∧ Below w.heap.size w w'
theorem six_any (e : Ent) (hF : e.Fine) (hL : e.Low) : ∃ n u f o1 o2 o3, Six e n u f o1 o2 o3 := by
  obtain ⟨n, b1, i1, i2⟩ := entI e hF hL
  obtain ⟨u, b2, u0, u1, j1, j2⟩ := entU e hF hL
  obtain ⟨f, b3, k1, k2⟩ := entF e hF hL
  have x1 := imp25 e hF n b1 i1
  have x2 := imp26 e hF u u0 u1 b2 j1
  have x3 := imp27 e hF f b3 k1
  have x4 := imp28 e hF n b1 i2
  have x5 := imp29 e hF u u0 u1 b2 j2
  have x6 := imp30 e hF f b3 k2
  generalize (!b1) = o1 at x1 x4
  generalize (!b2) = o2 at x2 x5
  generalize (!b3) = o3 at x3 x6
  exact ⟨n, u, f, o1, o2, o3, Six.mk x1 x2 x3 x4 x5 x6⟩
/-- What castNear leaves of a value. -/
def nearEnt (k i u : Int) (f : Nat) (s : ByteArray) : Ent := ⟨⟨#[]⟩, cutK k, i, u, cutF 4638637247447433216 f, cutS s⟩
theorem cutN (f : Nat) : cutF 4638637247447433216 f % 2 ^ 63 < 1030 * 2 ^ 52 := by
  unfold cutF
  by_cases h : ((FloatKind.f64.format.order f (Op.negFloat .f64 4638637247447433216) == some .gt) && (FloatKind.f64.format.order f 4638637247447433216 == some .lt)) = true
  · rw [if_pos h]
    rw [Bool.and_eq_true] at h
    exact near_rung _ h.1 h.2
  · rw [if_neg h]
    decide
theorem near_g (k i u : Int) (f : Nat) (s : ByteArray) : ∃ h, Near (nearEnt k i u f s).f (nearEnt k i u f s).g h := by
  obtain ⟨g, h, hN⟩ := near_of _ (cutN f)
  have hf : (nearEnt k i u f s).f = cutF 4638637247447433216 f := rfl
  have hg : (nearEnt k i u f s).g = g := by
    unfold Ent.g
    rw [hf, hN.n1]
    rfl
  rw [hf, hg]
  exact ⟨h, hN⟩
theorem near_fine (k i u : Int) (f : Nat) (s : ByteArray) : (nearEnt k i u f s).Fine := by
  obtain ⟨h, hN⟩ := near_g k i u f s
  have hu : 0 ≤ IntKind.u64.wrap k := by rw [IntKind.wrap_u64]; omega
  have hk : cutK k = IntKind.u64.wrap k % 15 := by
    unfold cutK
    rw [Int.tmod_eq_emod_of_nonneg hu]
    exact IntWalk.i64_in _ (by omega)
  refine ⟨?_, ?_, hN.n1, ?_⟩
  · show 0 ≤ cutK k
    omega
  · show cutK k ≤ 14
    omega
  · show (cutS s).size ≤ 400
    unfold cutS
    rw [ByteArray.size_extract]
    omega
theorem near_low (k i u : Int) (f : Nat) (s : ByteArray) (i0 : -9223372036854775808 ≤ i) (i1 : i ≤ 9223372036854775807) (u0 : 0 ≤ u) (u1 : u < 18446744073709551616) : (nearEnt k i u f s).Low := ⟨i0, i1, u0, u1, near_g k i u f s⟩
theorem kept_any {w0 w w' : World} {b : Nat} {c : Array Value} (h : w.heap[b]? = some (.cells c 28 (0, 0))) (hb : Below w.heap.size w w') : w'.heap[b]? = some (.cells c 28 (0, 0)) := by
  have hlt : b < w.heap.size := (Array.getElem?_eq_some_iff.1 h).1
  rw [hb.block b hlt]
  exact h
theorem law_number (k i u : Int) (f : Nat) (s : ByteArray) (lp : Option Addr) (ln lc : Nat) (mp : Option Addr) (mn mc : Nat) (i0 : -9223372036854775808 ≤ i) (i1 : i ≤ 9223372036854775807) (u0 : 0 ≤ u) (u1 : u < 18446744073709551616) (w : World) (hw : CW w) :
    Calls Tryz.prog 6 #[rawAny k i u f s lp ln lc mp mn mc] w fun e w' => e = .returned (.bool true) ∧ Below w.heap.size w w' := by
  obtain ⟨b, hfits⟩ := fits_any k i u f s lp ln lc mp mn mc
  obtain ⟨n, v, x, o1, o2, o3, hS⟩ := six_any _ (near_fine k i u f s) (near_low k i u f s i0 i1 u0 u1)
  have hN := fun w => near_any k i u f s (.slice lp ln lc) (.slice mp mn mc) w
  have HS := Lib.hid hS
  clear hS
  unfold nearEnt at HS
  obtain ⟨k2, hk2⟩ : ∃ k2, k2 = cutK k := ⟨_, rfl⟩
  obtain ⟨f2, hf2⟩ : ∃ f2, f2 = cutF 4638637247447433216 f := ⟨_, rfl⟩
  obtain ⟨s2, hs2⟩ : ∃ s2, s2 = cutS s := ⟨_, rfl⟩
  rw [← hk2, ← hf2, ← hs2] at HS hN
  clear hk2 hf2 hs2 i0 i1 u0 u1
  have HW := Lib.hid hw
  have HF := Lib.hid hfits
  have HN := Lib.hid hN
  clear hfits hN hw
  cases b
  · go_enter Tryz.func6, Tryz.ntmps6
    go_wp2_with (go_at_call 23; refine (HF.out _).mono ?_; rintro r w1 ⟨rfl, hb1⟩)
    go_ret
    exact ⟨rfl, belowOn (below_alloc w _) hb1⟩
  go_enter Tryz.func6, Tryz.ntmps6
  go_wp2_with (first
    | (go_at_call 23; refine (HF.out _).mono ?_; rintro r w1 ⟨rfl, hb1⟩; have HB1 := Lib.hid (kept_any (w0 := w) (heap_alloc_new w (.cells (anyC k i u f s (.slice lp ln lc) (.slice mp mn mc)) 28 (0, 0))) hb1); have hbel1 := Lib.hid (belowOn (below_alloc w _) hb1); clear hb1)
    | (refine wpList_load_row rfl 28 (.tmp 1) rfl w.heap.size rfl 28 (anyC k i u f s (.slice lp ln lc) (.slice mp mn mc)) (0, 0) _ HB1.out Tryz.underlying28 rfl size28 ?_)
    | (go_at_call 24; refine (HN.out _).mono ?_; rintro r w2 ⟨rfl, hb2⟩; have HB2 := Lib.hid (kept_any (w0 := w) HB1.out hb2); have hbel2 := Lib.hid (belowOn hbel1.out hb2); clear hb2)
    | (refine wpList_store_row rfl 28 (.tmp 1) (.tmp 19) rfl w.heap.size (anyC k2 i u f2 s2 (.slice none 0 0) (.slice none 0 0)) rfl rfl 28 _ HB2.out size28 rfl (one_any _ _ _ _ _ rfl rfl) ?_; refine Hid.out ?_))
  generalize hW3 : World.setRow _ _ _ = W3
  have hb3 : W3.heap[w.heap.size]? = some (.cells (anyC k2 i u f2 s2 (.slice none 0 0) (.slice none 0 0)) 28 (0, 0)) := by
    rw [← hW3]
    exact setRow_heap _ _ _ _ _ _ HB2.out
  have hbel3 : Below w.heap.size w W3 := by
    rw [← hW3]
    exact below_setRow hbel2.out (Nat.le_refl _) _
  have hw3 := Lib.hid (HW.out.on hbel3)
  have HB3 := Lib.hid hb3
  have HL3 := Lib.hid hbel3
  clear hW3 hb3 hbel3 HB1 HB2 hbel1 hbel2
  refine Lib.hid ?_
  go_wp2_with (first
    | (go_at_call 25; refine (HS.out.ca _ hw3.out).mono ?_; rintro r w4 ⟨rfl, hb⟩; have HB4 := Lib.hid (kept_any (w0 := w) HB3.out hb); have HL4 := Lib.hid (belowOn HL3.out hb); have hw4 := Lib.hid (hw3.out.on hb); clear hb)
    | (go_at_call 26; refine (HS.out.cb _ hw4.out).mono ?_; rintro r w5 ⟨rfl, hb⟩; have HB5 := Lib.hid (kept_any (w0 := w) HB4.out hb); have HL5 := Lib.hid (belowOn HL4.out hb); have hw5 := Lib.hid (hw4.out.on hb); clear hb)
    | (go_at_call 27; refine (HS.out.cc _ hw5.out).mono ?_; rintro r w6 ⟨rfl, hb⟩; have HB6 := Lib.hid (kept_any (w0 := w) HB5.out hb); have HL6 := Lib.hid (belowOn HL5.out hb); have hw6 := Lib.hid (hw5.out.on hb); clear hb)
    | (go_at_call 28; refine (HS.out.cd _ hw6.out).mono ?_; rintro r w7 ⟨rfl, hb⟩; have HB7 := Lib.hid (kept_any (w0 := w) HB6.out hb); have HL7 := Lib.hid (belowOn HL6.out hb); have hw7 := Lib.hid (hw6.out.on hb); clear hb)
    | (go_at_call 29; refine (HS.out.ce _ hw7.out).mono ?_; rintro r w8 ⟨rfl, hb⟩; have HB8 := Lib.hid (kept_any (w0 := w) HB7.out hb); have HL8 := Lib.hid (belowOn HL7.out hb); have hw8 := Lib.hid (hw7.out.on hb); clear hb)
    | (go_at_call 30; refine (HS.out.cf _ hw8.out).mono ?_; rintro r w9 ⟨rfl, hb⟩; have HL9 := Lib.hid (belowOn HL8.out hb); have hw9 := Lib.hid (hw8.out.on hb); clear hb)
    | (go_at_call 31; refine (same_any _ _).mono ?_; rintro r w10 ⟨rfl, rfl⟩)
    | (go_at_call 32; refine (lives _ hw9.out).mono ?_; rintro r w11 ⟨rfl, hb⟩)
    | (refine wpList_load_row rfl 28 (.tmp 1) rfl w.heap.size rfl 28 (anyC k2 i u f2 s2 (.slice none 0 0) (.slice none 0 0)) (0, 0) _ HB3.out Tryz.underlying28 rfl size28 ?_)
    | (refine wpList_load_row rfl 28 (.tmp 1) rfl w.heap.size rfl 28 (anyC k2 i u f2 s2 (.slice none 0 0) (.slice none 0 0)) (0, 0) _ HB4.out Tryz.underlying28 rfl size28 ?_)
    | (refine wpList_load_row rfl 28 (.tmp 1) rfl w.heap.size rfl 28 (anyC k2 i u f2 s2 (.slice none 0 0) (.slice none 0 0)) (0, 0) _ HB5.out Tryz.underlying28 rfl size28 ?_)
    | (refine wpList_load_row rfl 28 (.tmp 1) rfl w.heap.size rfl 28 (anyC k2 i u f2 s2 (.slice none 0 0) (.slice none 0 0)) (0, 0) _ HB6.out Tryz.underlying28 rfl size28 ?_)
    | (refine wpList_load_row rfl 28 (.tmp 1) rfl w.heap.size rfl 28 (anyC k2 i u f2 s2 (.slice none 0 0) (.slice none 0 0)) (0, 0) _ HB7.out Tryz.underlying28 rfl size28 ?_)
    | (refine wpList_load_row rfl 28 (.tmp 1) rfl w.heap.size rfl 28 (anyC k2 i u f2 s2 (.slice none 0 0) (.slice none 0 0)) (0, 0) _ HB8.out Tryz.underlying28 rfl size28 ?_))
  go_ret
  exact ⟨rfl, belowOn HL9.out hb⟩
end Go.Proofs.YtnggkkdcddpjlaaGreatDoor
