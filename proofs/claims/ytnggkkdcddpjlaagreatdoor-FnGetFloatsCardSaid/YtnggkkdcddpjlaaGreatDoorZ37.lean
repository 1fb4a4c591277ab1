/- Reading a decimal text: what the rounds of readFloat come to. Reading the forms of a decimal text: whole, with a fraction, below one, with an exponent. The texts that the shortest form 'g' prints, and what they are read as. The digits of a number: their value, the first one, those behind the trimming. -/
import Derived.Test.YtnggkkdcddpjlaaGreatDoorZ02
import Derived.Test.YtnggkkdcddpjlaaGreatDoorZ14
import Derived.Test.YtnggkkdcddpjlaaGreatDoorZ33
namespace Go.Proofs.YtnggkkdcddpjlaaGreatDoor
open Go.RowKit
set_option linter.unusedVariables false
set_option maxRecDepth 100000
theorem ends_uniq {σ : Type} {step : σ → Option σ} {x a b : σ} (ha : Ends step x a) (hb : Ends step x b) : a = b := by
  induction ha with
  | stop h => exact (hb.done h).symm
  | go h _ ih => exact ih (hb.next h)
/-- The value of n digits. -/
def dval (B : Nat → Int) : Nat → Int
  | 0 => 0
  | n + 1 => dval B n * 10 + (B n - 48)
def DigL (B : Nat → Int) (n : Nat) : Prop := ∀ t, t < n → 48 ≤ B t ∧ B t ≤ 57
theorem dval_add (B : Nat → Int) (a : Nat) : ∀ b, dval B (a + b) = dval B a * 10 ^ b + dval (fun t => B (a + t)) b
  | 0 => by simp [dval]
  | b + 1 => by
    show dval B (a + b) * 10 + (B (a + b) - 48) = dval B a * 10 ^ (b + 1) + (dval (fun t => B (a + t)) b * 10 + (B (a + b) - 48))
    rw [dval_add B a b, Int.pow_succ, Int.add_mul, ← Int.mul_assoc]
    omega
theorem dval_in (B : Nat → Int) : ∀ n, DigL B n → 0 ≤ dval B n ∧ dval B n < 10 ^ n
  | 0, _ => by simp [dval]
  | n + 1, h => by
    obtain ⟨h1, h2⟩ := dval_in B n (fun t ht => h t (by omega))
    have h3 := h n (by omega)
    show 0 ≤ dval B n * 10 + (B n - 48) ∧ dval B n * 10 + (B n - 48) < 10 ^ (n + 1)
    rw [Int.pow_succ]
    omega
theorem dval_same (B C : Nat → Int) : ∀ n, (∀ t, t < n → B t = C t) → dval B n = dval C n
  | 0, _ => rfl
  | n + 1, h => by
    show dval B n * 10 + (B n - 48) = dval C n * 10 + (C n - 48)
    rw [dval_same B C n (fun t ht => h t (by omega)), h n (by omega)]
theorem dval_zeros (B : Nat → Int) : ∀ n, (∀ t, t < n → B t = 48) → dval B n = 0
  | 0, _ => rfl
  | n + 1, h => by
    show dval B n * 10 + (B n - 48) = 0
    rw [dval_zeros B n (fun t ht => h t (by omega)), h n (by omega)]
    rfl
theorem eat {s : ByteArray} {z : RF} (B : Nat → Int) (i : Nat) (m nd nm dp : Int) (us sd sg tr : Bool) (hnd : 0 ≤ nd) (hm0 : 0 ≤ m) (hf : 0 < nd ∨ B 0 ≠ 48) : ∀ (n : Nat), (∀ t, t < n → byt s (i + t) = B t) → DigL B n → i + n ≤ s.size → m * 10 ^ n + dval B n < 18446744073709551616 → nm + n ≤ 19 →
    Ends (rfStep false 10 19 s) ⟨i + n, m * 10 ^ n + dval B n, nd + n, nm + n, dp, us, sd, sg || decide (0 < n), tr⟩ z → Ends (rfStep false 10 19 s) ⟨i, m, nd, nm, dp, us, sd, sg, tr⟩ z
  | 0, _, _, _, _, _, h => by
    have e1 : m * 10 ^ 0 + dval B 0 = m := by simp [dval]
    have e2 : nd + ((0 : Nat) : Int) = nd := by omega
    have e3 : nm + ((0 : Nat) : Int) = nm := by omega
    have e4 : (sg || decide (0 < 0)) = sg := by simp
    rw [e1, e2, e3, e4] at h
    exact h
  | n + 1, hb, hd, hin, hm1, hnm, h => by
    have hd2 : DigL B n := fun t ht => hd t (by omega)
    have hdn := hd n (by omega)
    have e1 : m * 10 ^ (n + 1) + dval B (n + 1) = (m * 10 ^ n + dval B n) * 10 + (B n - 48) := by
      show m * 10 ^ (n + 1) + (dval B n * 10 + (B n - 48)) = _
      rw [Int.pow_succ, Int.add_mul, ← Int.mul_assoc]
      omega
    have hp : 0 ≤ m * 10 ^ n := Int.mul_nonneg hm0 (Int.le_of_lt (Int.pow_pos (by decide)))
    have hv := (dval_in B n hd2).1
    rw [e1] at hm1 h
    obtain ⟨V, hV⟩ : ∃ V, V = m * 10 ^ n + dval B n := ⟨_, rfl⟩
    refine eat B i m nd nm dp us sd sg tr hnd hm0 hf n (fun t ht => hb t (by omega)) hd2 (by omega) (by omega) (by omega) ?_
    rw [← hV] at hm1 h ⊢
    refine .go ?_ h
    rw [rf_at (by omega) (B n) (hb n (by omega)), if_neg (by omega), if_neg (by omega), if_pos hdn, if_neg, if_pos (by omega)]
    · have w1 : IntKind.u64.wrap (V * 10) = V * 10 := by rw [IntKind.wrap_u64]; omega
      have w2 : IntKind.u64.wrap (V * 10 + (B n - 48)) = V * 10 + (B n - 48) := by rw [IntKind.wrap_u64]; omega
      rw [w1, w2]
      have e5 : (sg || decide (0 < n + 1)) = true := by simp
      rw [e5]
      congr 2 <;> omega
    · rintro ⟨h1, h2⟩
      rcases hf with hf | hf
      · omega
      · have : n = 0 := by omega
        rw [this] at h1
        exact hf h1
theorem eat0 {s : ByteArray} {z : RF} (i : Nat) (m nm dp : Int) (us sd sg tr : Bool) : ∀ (n : Nat), (∀ t, t < n → byt s (i + t) = 48) → i + n ≤ s.size →
    Ends (rfStep false 10 19 s) ⟨i + n, m, 0, nm, dp - n, us, sd, sg || decide (0 < n), tr⟩ z → Ends (rfStep false 10 19 s) ⟨i, m, 0, nm, dp, us, sd, sg, tr⟩ z
  | 0, _, _, h => by
    have e2 : dp - ((0 : Nat) : Int) = dp := by omega
    have e4 : (sg || decide (0 < 0)) = sg := by simp
    rw [e2, e4] at h
    exact h
  | n + 1, hb, hin, h => by
    refine eat0 i m nm dp us sd sg tr n (fun t ht => hb t (by omega)) (by omega) ?_
    refine .go ?_ h
    rw [rf_at (by omega) 48 (hb n (by omega)), if_neg (by decide), if_neg (by decide), if_pos (by decide), if_pos ⟨rfl, rfl⟩]
    have e5 : (sg || decide (0 < n + 1)) = true := by simp
    rw [e5]
    congr 2
    omega
theorem eat_dot {s : ByteArray} {z : RF} (i : Nat) (m nd nm dp : Int) (us sg tr : Bool) (hin : i < s.size) (hb : byt s i = 46) (h : Ends (rfStep false 10 19 s) ⟨i + 1, m, nd, nm, nd, us, true, sg, tr⟩ z) : Ends (rfStep false 10 19 s) ⟨i, m, nd, nm, dp, us, false, sg, tr⟩ z := by
  refine .go ?_ h
  rw [rf_at hin 46 hb, if_neg (by decide), if_pos rfl, if_neg (by decide)]
theorem eat_end {s : ByteArray} (i : Nat) (m nd nm dp : Int) (us sd sg tr : Bool) (hin : i = s.size ∨ byt s i = 101) : Ends (rfStep false 10 19 s) ⟨i, m, nd, nm, dp, us, sd, sg, tr⟩ ⟨i, m, nd, nm, dp, us, sd, sg, tr⟩ := by
  refine .stop ?_
  by_cases hi : i < s.size
  · rcases hin with hin | hin
    · omega
    · rw [rf_at hi 101 hin, if_neg (by decide), if_neg (by decide), if_neg (by decide), if_neg (by decide)]
  · exact rf_out hi
theorem eat_exp {s : ByteArray} {z : RE} (C : Nat → Int) (k : Nat) (us : Bool) : ∀ (n : Nat), n ≤ 4 → (∀ t, t < n → byt s (k + t) = C t) → DigL C n → k + n ≤ s.size →
    Ends (reStep s) ⟨k + n, dval C n, us⟩ z → Ends (reStep s) ⟨k, 0, us⟩ z
  | 0, _, _, _, _, h => h
  | n + 1, hn, hb, hd, hin, h => by
    have hd2 : DigL C n := fun t ht => hd t (by omega)
    have hdn := hd n (by omega)
    refine eat_exp C k us n (by omega) (fun t ht => hb t (by omega)) hd2 (by omega) ?_
    refine .go ?_ h
    obtain ⟨v1, v2⟩ := dval_in C n hd2
    have v3 : (10 : Int) ^ n ≤ 10 ^ 3 := by
      have h1 : (10 ^ n : Nat) ≤ 10 ^ 3 := Nat.pow_le_pow_right (by decide) (by omega)
      have h2 : ((10 ^ n : Nat) : Int) ≤ ((10 ^ 3 : Nat) : Int) := by omega
      rw [Int.natCast_pow, Int.natCast_pow] at h2
      exact h2
    rw [re_at (by omega) (C n) (hb n (by omega)), if_neg (by omega), if_pos hdn, if_pos (by omega)]
    congr 2
    show dval C n * 10 + C n - 48 = dval C n * 10 + (C n - 48)
    omega
/-- What a decimal text is read as: behind its sign. -/
def ReadAs (U : ByteArray → Bool) (s : ByteArray) (m p : Int) : Prop := rfHex s = false ∧ rfFin false U s (runL (rfStep false 10 19 s) s.size (rfStart (rfI1 s))) = ⟨m, p, false, s.size, true⟩
theorem rf_runL (s : ByteArray) (hi : rfI1 s ≤ s.size) (x : RF) (h : Ends (rfStep false 10 19 s) (rfStart (rfI1 s)) x) : runL (rfStep false 10 19 s) s.size (rfStart (rfI1 s)) = x := by
  obtain ⟨hE, hI, hN⟩ := runL_ends (step := rfStep false 10 19 s) (RFI s) (fun x => s.size - x.i) (rf_keep false 10 19 (by omega) s) s.size (rfStart (rfI1 s)) (Nat.sub_le _ _) (by
    refine ⟨?_, ?_, ?_, ?_, ?_, ?_, ?_, ?_, ?_⟩ <;> simp [rfStart] <;> omega)
  exact ends_uniq hE h
theorem fin_plain (U : ByteArray → Bool) (s : ByteArray) (m nd nm dp : Int) (sd : Bool) (hm : m ≠ 0) : rfFin false U s ⟨s.size, m, nd, nm, dp, false, sd, true, false⟩ = ⟨m, (if sd = true then dp else nd) - nm, false, s.size, true⟩ := by
  have e : ∀ D, rfExp false s s.size D false = ⟨true, s.size, D, false⟩ := fun D => by
    unfold rfExp
    rw [if_neg (by rintro ⟨h, _⟩; omega)]
    rfl
  unfold rfFin
  dsimp only
  rw [if_pos rfl, e]
  dsimp only
  rw [if_pos rfl, if_neg hm, if_neg (by decide)]
  simp
theorem fin_exp (U : ByteArray → Bool) (s : ByteArray) (j : Nat) (m nd nm dp : Int) (sd : Bool) (hm : m ≠ 0) (C : Nat → Int) (n : Nat) (c : Int) (hj : byt s j = 101) (hc : byt s (j + 1) = c) (hc2 : c = 43 ∨ c = 45) (hn0 : 0 < n) (hn : n ≤ 4) (hb : ∀ t, t < n → byt s (j + 2 + t) = C t) (hd : DigL C n) (hsz : s.size = j + 2 + n) :
    rfFin false U s ⟨j, m, nd, nm, dp, false, sd, true, false⟩ = ⟨m, (if sd = true then dp else nd) + (if c = 45 then -(dval C n) else dval C n) - nm, false, s.size, true⟩ := by
  have hJ : rxJ s j = j + 2 := by
    unfold rxJ
    rcases hc2 with rfl | rfl
    · rw [if_pos hc]
    · rw [if_neg (by omega), if_pos hc]
  have hE : runL (reStep s) s.size ⟨j + 2, 0, false⟩ = ⟨s.size, dval C n, false⟩ := by
    obtain ⟨hE, _, _⟩ := runL_ends (step := reStep s) (REI s) (fun x => s.size - x.k) (re_keep s) s.size ⟨j + 2, 0, false⟩ (Nat.sub_le _ _) ⟨by dsimp only; omega, by dsimp only; omega, by dsimp only; omega⟩
    refine ends_uniq hE (eat_exp C (j + 2) false n hn hb hd (by omega) ?_)
    rw [← hsz]
    exact .stop (re_out (by omega))
  have h48 := hd 0 hn0
  have hb0 := hb 0 hn0
  have e : ∀ D, rfExp false s j D false = ⟨true, s.size, D + (if c = 45 then -(dval C n) else dval C n), false⟩ := fun D => by
    unfold rfExp
    rw [hJ, hE, hc]
    have hl : low (byt s j) = 101 := by rw [hj]; decide
    rw [if_pos ⟨by omega, by rw [hl]; rfl⟩, if_pos (by omega), if_pos]
    rw [Nat.add_zero] at hb0
    rw [hb0]
    omega
  unfold rfFin
  dsimp only
  rw [if_pos rfl, e]
  dsimp only
  rw [if_pos rfl, if_neg hm, if_neg (by decide)]
  simp
end Go.Proofs.YtnggkkdcddpjlaaGreatDoor
namespace Go.Proofs.YtnggkkdcddpjlaaGreatDoor
open Go.RowKit
set_option linter.unusedVariables false
set_option maxRecDepth 100000
/-- The bytes of a text from i on, as digits. -/
def at_ (s : ByteArray) (i : Nat) : Nat → Int := fun t => byt s (i + t)
theorem at_dig {s : ByteArray} {i n : Nat} (h : DigL (at_ s i) n) (t : Nat) (ht : t < n) : 48 ≤ byt s (i + t) ∧ byt s (i + t) ≤ 57 := h t ht
theorem no_hex (s : ByteArray) (i : Nat) (hi : rfI1 s = i) (h : byt s i ≠ 48 ∨ byt s (i + 1) = 46) : rfHex s = false := by
  unfold rfHex
  rw [hi]
  refine decide_eq_false ?_
  rintro ⟨⟨_, h1⟩, h2⟩
  rcases h with h | h
  · exact h h1
  · rw [h] at h2
    exact absurd h2 (by decide)
theorem pow_le18 (n : Nat) (h : n ≤ 18) : (10 : Int) ^ n ≤ 1000000000000000000 := by
  have h1 : (10 ^ n : Nat) ≤ 10 ^ 18 := Nat.pow_le_pow_right (by decide) h
  have h2 : ((10 ^ n : Nat) : Int) ≤ ((10 ^ 18 : Nat) : Int) := by omega
  rw [Int.natCast_pow, Int.natCast_pow] at h2
  exact h2
theorem dval_pos (B : Nat → Int) (h0 : 48 < B 0) : ∀ n, 0 < n → DigL B n → 0 < dval B n
  | 0, h, _ => by omega
  | 1, _, _ => by
    show 0 < 0 * 10 + (B 0 - 48)
    omega
  | n + 2, _, hd => by
    have := dval_pos B h0 (n + 1) (by omega) (fun t ht => hd t (by omega))
    have h2 := hd (n + 1) (by omega)
    show 0 < dval B (n + 1) * 10 + (B (n + 1) - 48)
    omega
theorem one_eat {s : ByteArray} {z : RF} (i n : Nat) (hd : DigL (at_ s i) n) (h0 : 0 < n) (hf : byt s i ≠ 48) (hin : i + n ≤ s.size) (hn : n ≤ 18)
    (h : Ends (rfStep false 10 19 s) ⟨i + n, dval (at_ s i) n, n, n, 0, false, false, true, false⟩ z) : Ends (rfStep false 10 19 s) (rfStart i) z := by
  have hv := (dval_in (at_ s i) n hd).2
  have hp := pow_le18 n hn
  refine eat (at_ s i) i 0 0 0 0 false false false false (by omega) (by omega) (Or.inr hf) n (fun t ht => rfl) hd hin (by rw [Int.zero_mul]; omega) (by omega) ?_
  have e1 : (0 : Int) * 10 ^ n + dval (at_ s i) n = dval (at_ s i) n := by omega
  have e2 : (0 : Int) + (n : Int) = n := by omega
  have e3 : (false || decide (0 < n)) = true := by simp; omega
  rw [e1, e2, e3]
  exact h
theorem read_int (U : ByteArray → Bool) (s : ByteArray) (i n : Nat) (hi : rfI1 s = i) (hd : DigL (at_ s i) n) (h0 : 0 < n) (hf : byt s i ≠ 48) (hn : n ≤ 18) (hsz : s.size = i + n) : ReadAs U s (dval (at_ s i) n) 0 := by
  have h48 : 48 < byt s i := by have := at_dig hd 0 h0; rw [Nat.add_zero] at this; omega
  refine ⟨no_hex s i hi (Or.inl hf), ?_⟩
  have hE : Ends (rfStep false 10 19 s) (rfStart i) ⟨s.size, dval (at_ s i) n, n, n, 0, false, false, true, false⟩ := by
    refine one_eat i n hd h0 hf (by omega) hn ?_
    rw [← hsz]
    exact eat_end _ _ _ _ _ _ _ _ _ (Or.inl rfl)
  rw [← hi] at hE
  rw [rf_runL s (by omega) _ hE, hi, fin_plain _ _ _ _ _ _ _ (Int.ne_of_gt (dval_pos _ (by show 48 < byt s (i + 0); rw [Nat.add_zero]; exact h48) n h0 hd)), if_neg (by decide)]
  have : (n : Int) - n = 0 := by omega
  rw [this]
theorem two_eat {s : ByteArray} {z : RF} (i a b : Nat) (hd : DigL (at_ s i) a) (h0 : 0 < a) (hf : byt s i ≠ 48) (hdot : byt s (i + a) = 46) (hd2 : DigL (at_ s (i + a + 1)) b) (hab : a + b ≤ 18) (hsz : i + a + 1 + b ≤ s.size)
    (h : Ends (rfStep false 10 19 s) ⟨i + a + 1 + b, dval (at_ s i) a * 10 ^ b + dval (at_ s (i + a + 1)) b, (a : Int) + b, (a : Int) + b, a, false, true, true, false⟩ z) : Ends (rfStep false 10 19 s) (rfStart i) z := by
  have hv := dval_in (at_ s i) a hd
  have hv2 := dval_in (at_ s (i + a + 1)) b hd2
  have hp := pow_le18 (a + b) hab
  have hb0 : (0 : Int) < 10 ^ b := Int.pow_pos (by decide)
  have hm : dval (at_ s i) a * 10 ^ b + dval (at_ s (i + a + 1)) b < 10 ^ (a + b) := by
    rw [Int.pow_add]
    have h1 : (dval (at_ s i) a + 1) * 10 ^ b ≤ 10 ^ a * 10 ^ b := Int.mul_le_mul_of_nonneg_right (by omega) (Int.le_of_lt hb0)
    rw [Int.add_mul, Int.one_mul] at h1
    omega
  refine one_eat i a hd h0 hf (by omega) (by omega) ?_
  refine eat_dot _ _ _ _ _ _ _ _ (by omega) hdot ?_
  refine eat (at_ s (i + a + 1)) (i + a + 1) _ _ _ _ false true true false (by omega) hv.1 (Or.inl (by omega)) b (fun t ht => rfl) hd2 hsz (by omega) (by omega) ?_
  exact h
theorem read_frac (U : ByteArray → Bool) (s : ByteArray) (i a b : Nat) (hi : rfI1 s = i) (hd : DigL (at_ s i) a) (h0 : 0 < a) (hf : byt s i ≠ 48) (hdot : byt s (i + a) = 46) (hd2 : DigL (at_ s (i + a + 1)) b) (hab : a + b ≤ 18) (hsz : s.size = i + a + 1 + b) :
    ReadAs U s (dval (at_ s i) a * 10 ^ b + dval (at_ s (i + a + 1)) b) (-(b : Int)) := by
  have h48 : 48 < byt s i := by have := at_dig hd 0 h0; rw [Nat.add_zero] at this; omega
  have hpos := dval_pos (at_ s i) (by show 48 < byt s (i + 0); rw [Nat.add_zero]; exact h48) a h0 hd
  have hv2 := dval_in (at_ s (i + a + 1)) b hd2
  have hb0 : (0 : Int) < 10 ^ b := Int.pow_pos (by decide)
  have hmp := Int.mul_pos hpos hb0
  refine ⟨no_hex s i hi (Or.inl hf), ?_⟩
  have hE : Ends (rfStep false 10 19 s) (rfStart i) ⟨s.size, dval (at_ s i) a * 10 ^ b + dval (at_ s (i + a + 1)) b, (a : Int) + b, (a : Int) + b, a, false, true, true, false⟩ := by
    refine two_eat i a b hd h0 hf hdot hd2 hab (by omega) ?_
    rw [← hsz]
    exact eat_end _ _ _ _ _ _ _ _ _ (Or.inl rfl)
  rw [← hi] at hE
  rw [rf_runL s (by omega) _ hE, hi, fin_plain _ _ _ _ _ _ _ (by omega), if_pos rfl]
  have : (a : Int) - (a + b) = -(b : Int) := by omega
  rw [this]
theorem read_small (U : ByteArray → Bool) (s : ByteArray) (i Z n : Nat) (hi : rfI1 s = i) (hz0 : byt s i = 48) (hdot : byt s (i + 1) = 46) (hz : ∀ t, t < Z → byt s (i + 2 + t) = 48) (hd : DigL (at_ s (i + 2 + Z)) n) (h0 : 0 < n) (hf : byt s (i + 2 + Z) ≠ 48) (hn : n ≤ 18) (hsz : s.size = i + 2 + Z + n) :
    ReadAs U s (dval (at_ s (i + 2 + Z)) n) (-(Z : Int) - n) := by
  have h48 : 48 < byt s (i + 2 + Z) := by have := at_dig hd 0 h0; rw [Nat.add_zero] at this; omega
  have hpos := dval_pos (at_ s (i + 2 + Z)) (by show 48 < byt s (i + 2 + Z + 0); rw [Nat.add_zero]; exact h48) n h0 hd
  have hv := (dval_in (at_ s (i + 2 + Z)) n hd).2
  have hp := pow_le18 n hn
  refine ⟨no_hex s i hi (Or.inr hdot), ?_⟩
  have hE : Ends (rfStep false 10 19 s) (rfStart i) ⟨s.size, dval (at_ s (i + 2 + Z)) n, n, n, -(Z : Int), false, true, true, false⟩ := by
    refine eat0 i 0 0 0 false false false false 1 (fun t ht => by have : t = 0 := by omega
                                                                  rw [this]; exact hz0) (by omega) ?_
    refine eat_dot _ _ _ _ _ _ _ _ (by omega) hdot ?_
    refine eat0 (i + 1 + 1) 0 0 0 false true (false || decide (0 < 1)) false Z (fun t ht => hz t ht) (by omega) ?_
    refine eat (at_ s (i + 2 + Z)) (i + 1 + 1 + Z) 0 0 0 (0 - (Z : Int)) false true (false || decide (0 < 1) || decide (0 < Z)) false (by omega) (by omega) (Or.inr hf) n (fun t ht => rfl) hd (by omega) (by rw [Int.zero_mul]; omega) (by omega) ?_
    have e1 : (0 : Int) * 10 ^ n + dval (at_ s (i + 2 + Z)) n = dval (at_ s (i + 2 + Z)) n := by omega
    have e2 : (0 : Int) + (n : Int) = n := by omega
    have e3 : (false || decide (0 < 1) || decide (0 < Z) || decide (0 < n)) = true := by simp
    have e4 : i + 1 + 1 + Z + n = s.size := by omega
    have e5 : (0 : Int) - (Z : Int) = -(Z : Int) := by omega
    rw [e1, e2, e3, e4, e5]
    exact eat_end _ _ _ _ _ _ _ _ _ (Or.inl rfl)
  rw [← hi] at hE
  rw [rf_runL s (by omega) _ hE, hi, fin_plain _ _ _ _ _ _ _ (by omega), if_pos rfl]
theorem read_e1 (U : ByteArray → Bool) (s : ByteArray) (i n : Nat) (c : Int) (hi : rfI1 s = i) (hd : 48 ≤ byt s i ∧ byt s i ≤ 57) (hf : byt s i ≠ 48) (he : byt s (i + 1) = 101) (hc : byt s (i + 2) = c) (hc2 : c = 43 ∨ c = 45) (hn0 : 0 < n) (hn : n ≤ 4) (hx : DigL (at_ s (i + 3)) n) (hsz : s.size = i + 3 + n) :
    ReadAs U s (byt s i - 48) (if c = 45 then -(dval (at_ s (i + 3)) n) else dval (at_ s (i + 3)) n) := by
  have hd1 : DigL (at_ s i) 1 := fun t ht => by
    have : t = 0 := by omega
    subst this
    exact hd
  have hv1 : dval (at_ s i) 1 = byt s i - 48 := by
    show 0 * 10 + (byt s (i + 0) - 48) = _
    rw [Nat.add_zero]
    omega
  refine ⟨no_hex s i hi (Or.inl hf), ?_⟩
  have hE : Ends (rfStep false 10 19 s) (rfStart i) ⟨i + 1, byt s i - 48, 1, 1, 0, false, false, true, false⟩ := by
    refine one_eat i 1 hd1 (by omega) hf (by omega) (by omega) ?_
    rw [hv1]
    exact eat_end _ _ _ _ _ _ _ _ _ (Or.inr he)
  rw [← hi] at hE
  rw [rf_runL s (by omega) _ hE, hi, fin_exp U s (i + 1) _ _ _ _ _ (by omega) (at_ s (i + 3)) n c he hc hc2 hn0 hn (fun t ht => rfl) hx (by omega), if_neg (by decide)]
  have : (1 : Int) + (if c = 45 then -(dval (at_ s (i + 3)) n) else dval (at_ s (i + 3)) n) - 1 = (if c = 45 then -(dval (at_ s (i + 3)) n) else dval (at_ s (i + 3)) n) := by omega
  rw [this]
theorem read_em (U : ByteArray → Bool) (s : ByteArray) (i b n : Nat) (c : Int) (hi : rfI1 s = i) (hd : 48 ≤ byt s i ∧ byt s i ≤ 57) (hf : byt s i ≠ 48) (hdot : byt s (i + 1) = 46) (hd2 : DigL (at_ s (i + 2)) b) (hb : b ≤ 17) (he : byt s (i + 2 + b) = 101) (hc : byt s (i + 3 + b) = c) (hc2 : c = 43 ∨ c = 45) (hn0 : 0 < n) (hn : n ≤ 4) (hx : DigL (at_ s (i + 4 + b)) n) (hsz : s.size = i + 4 + b + n) :
    ReadAs U s ((byt s i - 48) * 10 ^ b + dval (at_ s (i + 2)) b) ((if c = 45 then -(dval (at_ s (i + 4 + b)) n) else dval (at_ s (i + 4 + b)) n) - b) := by
  have hd1 : DigL (at_ s i) 1 := fun t ht => by
    have : t = 0 := by omega
    subst this
    exact hd
  have hv1 : dval (at_ s i) 1 = byt s i - 48 := by
    show 0 * 10 + (byt s (i + 0) - 48) = _
    rw [Nat.add_zero]
    omega
  have hv2 := (dval_in (at_ s (i + 2)) b hd2).1
  have hb0 : (0 : Int) < 10 ^ b := Int.pow_pos (by decide)
  have hmp : 0 < (byt s i - 48) * 10 ^ b := Int.mul_pos (by omega) hb0
  refine ⟨no_hex s i hi (Or.inl hf), ?_⟩
  have hE : Ends (rfStep false 10 19 s) (rfStart i) ⟨i + 2 + b, (byt s i - 48) * 10 ^ b + dval (at_ s (i + 2)) b, 1 + (b : Int), 1 + (b : Int), 1, false, true, true, false⟩ := by
    refine two_eat i 1 b hd1 (by omega) hf hdot hd2 (by omega) (by omega) ?_
    rw [hv1]
    exact eat_end _ _ _ _ _ _ _ _ _ (Or.inr he)
  rw [← hi] at hE
  have e3 : i + 2 + b + 1 = i + 3 + b := by omega
  have e4 : i + 2 + b + 2 = i + 4 + b := by omega
  rw [rf_runL s (by omega) _ hE, hi, fin_exp U s (i + 2 + b) _ _ _ _ _ (by omega) (at_ s (i + 4 + b)) n c he (by rw [e3]; exact hc) hc2 hn0 hn (fun t ht => by rw [e4]; rfl) hx (by omega), if_pos rfl]
  have : (1 : Int) + (if c = 45 then -(dval (at_ s (i + 4 + b)) n) else dval (at_ s (i + 4 + b)) n) - (1 + (b : Int)) = (if c = 45 then -(dval (at_ s (i + 4 + b)) n) else dval (at_ s (i + 4 + b)) n) - b := by omega
  rw [this]
end Go.Proofs.YtnggkkdcddpjlaaGreatDoor
namespace Go.Proofs.YtnggkkdcddpjlaaGreatDoor
open Go.RowKit
set_option linter.unusedVariables false
set_option maxRecDepth 100000
def tx (out : List UInt8) : ByteArray := ⟨out.toArray⟩
theorem tx_size (out : List UInt8) : (tx out).size = out.length := by show out.toArray.size = _; simp
theorem byt_list (out : List UInt8) (k : Nat) : byt (tx out) k = ((out.getD k 0).toNat : Int) := by
  unfold byt
  split
  · rename_i h
    have h2 : k < out.length := by rw [tx_size] at h; exact h
    show ((out.toArray[k]'(by simpa using h2)).toNat : Int) = _
    rw [List.getElem_toArray, List.getD_eq_getElem?_getD, List.getElem?_eq_getElem h2]
    rfl
  · rename_i h
    have h2 : out.length ≤ k := by rw [tx_size] at h; omega
    rw [List.getD_eq_getElem?_getD, List.getElem?_eq_none h2]
    rfl
theorem byt_seg {out : List UInt8} (pre mid post : List UInt8) (h : out = pre ++ mid ++ post) (k t : Nat) (hk : k = pre.length + t) (ht : t < mid.length) : byt (tx out) k = ((mid.getD t 0).toNat : Int) := by
  rw [byt_list, h, hk]
  congr 2
  rw [List.getD_eq_getElem?_getD, List.getD_eq_getElem?_getD, List.append_assoc, List.getElem?_append_right (by omega)]
  have e : pre.length + t - pre.length = t := by omega
  rw [e, List.getElem?_append_left ht]
theorem getD_map (f : Nat → UInt8) (n t : Nat) (h : t < n) : ((List.range n).map f).getD t 0 = f t := by
  rw [List.getD_eq_getElem?_getD, List.getElem?_map, List.getElem?_range h]
  rfl
theorem getD_rep (c : UInt8) (n t : Nat) (h : t < n) : (List.replicate n c).getD t 0 = c := by
  rw [List.getD_eq_getElem?_getD, List.getElem?_replicate, if_pos h]
  rfl
/-- The digits as numbers. -/
def nb (B : Nat → UInt8) : Nat → Int := fun t => ((B t).toNat : Int)
def sgnL (neg : Bool) : List UInt8 := if neg = true then [45] else []
/-- A text that is read as the value V, with its sign. -/
structure Reads (out : List UInt8) (neg : Bool) (V : Rat) : Prop where
  l0 : 0 < out.length
  l1 : out.length ≤ 60
  sign : rfSign (tx out) = neg
  i1 : rfI1 (tx out) = (sgnL neg).length
  first : (neg = false ∧ 48 ≤ byt (tx out) 0 ∧ byt (tx out) 0 ≤ 57) ∨ (neg = true ∧ byt (tx out) 0 = 45 ∧ 48 ≤ byt (tx out) 1 ∧ byt (tx out) 1 ≤ 57)
  val : ∃ (m : Nat) (p : Int), (∀ U, ReadAs U (tx out) m p) ∧ 0 < m ∧ m < 144115188075855872 ∧ (m : Rat) * (10 : Rat) ^ p = V
/-- The head of a text: its sign and its first digit. -/
theorem head_of (neg : Bool) (b : UInt8) (rest : List UInt8) (hb0 : 48 ≤ b.toNat) (hb1 : b.toNat ≤ 57) :
    rfSign (tx (sgnL neg ++ b :: rest)) = neg ∧ rfI1 (tx (sgnL neg ++ b :: rest)) = (sgnL neg).length ∧
    ((neg = false ∧ 48 ≤ byt (tx (sgnL neg ++ b :: rest)) 0 ∧ byt (tx (sgnL neg ++ b :: rest)) 0 ≤ 57) ∨ (neg = true ∧ byt (tx (sgnL neg ++ b :: rest)) 0 = 45 ∧ 48 ≤ byt (tx (sgnL neg ++ b :: rest)) 1 ∧ byt (tx (sgnL neg ++ b :: rest)) 1 ≤ 57)) := by
  cases neg with
  | false =>
    have e : byt (tx (sgnL false ++ b :: rest)) 0 = b.toNat := by rw [byt_list]; rfl
    unfold rfSign rfI1
    rw [e]
    refine ⟨?_, ?_, Or.inl ⟨rfl, by omega, by omega⟩⟩
    · rw [beq_eq_false_iff_ne]; omega
    · rw [if_neg (by omega), if_neg (by omega)]; rfl
  | true =>
    have e : byt (tx (sgnL true ++ b :: rest)) 0 = 45 := by rw [byt_list]; rfl
    have e1 : byt (tx (sgnL true ++ b :: rest)) 1 = b.toNat := by rw [byt_list]; rfl
    unfold rfSign rfI1
    rw [e, e1]
    refine ⟨rfl, ?_, Or.inr ⟨rfl, rfl, by omega, by omega⟩⟩
    rw [if_neg (by decide), if_pos rfl]; rfl
theorem sgnL_le (neg : Bool) : (sgnL neg).length ≤ 1 := by cases neg <;> decide
theorem nat_of_pos (x : Int) (h : 0 < x) : ∃ n : Nat, x = n ∧ 0 < n := ⟨x.toNat, by omega, by omega⟩
theorem range_cons (B : Nat → UInt8) (n : Nat) (h : 0 < n) : (List.range n).map B = B 0 :: (List.range (n - 1)).map fun t => B (1 + t) := by
  have e : n = 1 + (n - 1) := by omega
  conv => lhs; rw [e, List.range_add, List.map_append]
  simp [List.map_map, Function.comp_def]
theorem ten_pow_cast (n : Nat) : (((10 : Int) ^ n : Int) : Rat) = (10 : Rat) ^ (n : Int) := by
  rw [Rat.zpow_natCast, Rat.intCast_pow]
  rfl
theorem reads_mk {neg : Bool} {out : List UInt8} (l0 : 0 < out.length) (l1 : out.length ≤ 60) (hh1 : rfSign (tx out) = neg) (hh2 : rfI1 (tx out) = (sgnL neg).length)
    (hh3 : (neg = false ∧ 48 ≤ byt (tx out) 0 ∧ byt (tx out) 0 ≤ 57) ∨ (neg = true ∧ byt (tx out) 0 = 45 ∧ 48 ≤ byt (tx out) 1 ∧ byt (tx out) 1 ≤ 57)) (m p : Int) (hr : ∀ U, ReadAs U (tx out) m p) (hm0 : 0 < m) (hm1 : m < 144115188075855872) : Reads out neg ((m : Rat) * (10 : Rat) ^ p) := by
  obtain ⟨n, rfl, hn0⟩ := nat_of_pos m hm0
  exact ⟨l0, l1, hh1, hh2, hh3, n, p, hr, hn0, by omega, by rw [Rat.intCast_natCast]⟩
theorem ten_add (a b : Int) : (10 : Rat) ^ (a + b) = (10 : Rat) ^ a * (10 : Rat) ^ b := Rat.zpow_add (by decide) a b
/-- A whole number. -/
theorem reads_pn (neg : Bool) (B : Nat → UInt8) (nd Z : Nat) (hnd : 0 < nd) (hd : DigL (nb B) nd) (hB : (B 0).toNat ≠ 48) (hz : nd + Z ≤ 6) :
    Reads (sgnL neg ++ (((List.range nd).map fun t => B t) ++ List.replicate Z 48)) neg ((dval (nb B) nd : Rat) * (10 : Rat) ^ (Z : Int)) := by
  have h0 : 48 ≤ (B 0).toNat ∧ (B 0).toNat ≤ 57 := by have := hd 0 hnd; unfold nb at this; omega
  have hs := sgnL_le neg
  have hpos := dval_pos (nb B) (by show 48 < ((B 0).toNat : Int); omega) nd hnd hd
  have hin := dval_in (nb B) nd hd
  obtain ⟨out, ho⟩ : ∃ out, out = sgnL neg ++ (((List.range nd).map fun t => B t) ++ List.replicate Z 48) := ⟨_, rfl⟩
  have hlen : out.length = (sgnL neg).length + (nd + Z) := by rw [ho]; simp
  have hh := head_of neg (B 0) (((List.range (nd - 1)).map fun t => B (1 + t)) ++ List.replicate Z 48) h0.1 h0.2
  have e1 : sgnL neg ++ B 0 :: (((List.range (nd - 1)).map fun t => B (1 + t)) ++ List.replicate Z 48) = out := by rw [ho, range_cons B nd hnd]; rfl
  rw [e1] at hh
  obtain ⟨hh1, hh2, hh3⟩ := hh
  have s1 : ∀ t, t < nd → byt (tx out) ((sgnL neg).length + t) = nb B t := fun t ht => by
    rw [byt_seg (sgnL neg) ((List.range nd).map fun t => B t) (List.replicate Z 48) (by rw [ho, List.append_assoc]) _ t rfl (by simpa using ht), getD_map _ _ _ ht]
    rfl
  have s2 : ∀ t, t < Z → byt (tx out) ((sgnL neg).length + (nd + t)) = 48 := fun t ht => by
    rw [byt_seg (sgnL neg ++ (List.range nd).map fun t => B t) (List.replicate Z 48) [] (by rw [ho, List.append_nil, List.append_assoc]) _ t (by simp; omega) (by simpa using ht), getD_rep _ _ _ ht]
    rfl
  have hdig : DigL (at_ (tx out) (sgnL neg).length) (nd + Z) := fun t ht => by
    show 48 ≤ byt (tx out) ((sgnL neg).length + t) ∧ byt (tx out) ((sgnL neg).length + t) ≤ 57
    by_cases h : t < nd
    · rw [s1 t h]; exact hd t h
    · have e := s2 (t - nd) (by omega)
      have e' : nd + (t - nd) = t := by omega
      rw [e'] at e
      rw [e]
      decide
  have hf : byt (tx out) (sgnL neg).length ≠ 48 := by
    have := s1 0 hnd
    rw [Nat.add_zero] at this
    rw [this]
    show ((B 0).toNat : Int) ≠ 48
    omega
  have hval : dval (at_ (tx out) (sgnL neg).length) (nd + Z) = dval (nb B) nd * 10 ^ Z := by
    rw [dval_add, dval_same (at_ (tx out) (sgnL neg).length) (nb B) nd s1, dval_zeros (fun t => at_ (tx out) (sgnL neg).length (nd + t)) Z s2]
    omega
  have hr := fun U => read_int U (tx out) (sgnL neg).length (nd + Z) hh2 hdig (by omega) hf (by omega) (by rw [tx_size, hlen])
  have hZ0 : (0 : Int) < 10 ^ Z := Int.pow_pos (by decide)
  have hlt : dval (nb B) nd * 10 ^ Z < 1000000 := by
    have h1 : dval (nb B) nd * 10 ^ Z < 10 ^ nd * 10 ^ Z := Int.mul_lt_mul_of_pos_right hin.2 hZ0
    rw [← Int.pow_add] at h1
    have h2 : (10 : Int) ^ (nd + Z) ≤ 10 ^ 6 := by
      have h1 : (10 ^ (nd + Z) : Nat) ≤ 10 ^ 6 := Nat.pow_le_pow_right (by decide) hz
      have h2 : ((10 ^ (nd + Z) : Nat) : Int) ≤ ((10 ^ 6 : Nat) : Int) := by omega
      rw [Int.natCast_pow, Int.natCast_pow] at h2
      exact h2
    have h3 : (10 : Int) ^ 6 = 1000000 := by decide
    omega
  rw [hval] at hr
  rw [← ho]
  have h := reads_mk (by omega) (by omega) hh1 hh2 hh3 _ _ hr (Int.mul_pos hpos hZ0) (by omega)
  rw [Rat.intCast_mul, ten_pow_cast] at h
  have e : (10 : Rat) ^ (0 : Int) = 1 := by decide
  rw [e, Rat.mul_one] at h
  exact h
/-- A number with a fraction. -/
theorem reads_pp (neg : Bool) (B : Nat → UInt8) (a b nd : Nat) (ha : 0 < a) (hnd : 0 < nd) (hab : nd = a + b) (hd : DigL (nb B) nd) (hB : (B 0).toNat ≠ 48) (hn : nd ≤ 18) (hlt : dval (nb B) nd < 144115188075855872) :
    Reads (sgnL neg ++ (((List.range a).map fun t => B t) ++ [46] ++ ((List.range b).map fun t => B (a + t)))) neg ((dval (nb B) nd : Rat) * (10 : Rat) ^ (-(b : Int))) := by
  have h0 : 48 ≤ (B 0).toNat ∧ (B 0).toNat ≤ 57 := by have := hd 0 hnd; unfold nb at this; omega
  have hs := sgnL_le neg
  have hpos := dval_pos (nb B) (by show 48 < ((B 0).toNat : Int); omega) nd hnd hd
  have hin := dval_in (nb B) nd hd
  obtain ⟨out, ho⟩ : ∃ out, out = sgnL neg ++ (((List.range a).map fun t => B t) ++ [46] ++ ((List.range b).map fun t => B (a + t))) := ⟨_, rfl⟩
  have hlen : out.length = (sgnL neg).length + (a + 1 + b) := by rw [ho]; simp; omega
  have hh := head_of neg (B 0) (((List.range (a - 1)).map fun t => B (1 + t)) ++ [46] ++ ((List.range b).map fun t => B (a + t))) h0.1 h0.2
  have e1 : sgnL neg ++ B 0 :: (((List.range (a - 1)).map fun t => B (1 + t)) ++ [46] ++ ((List.range b).map fun t => B (a + t))) = out := by rw [ho, range_cons B a ha]; rfl
  rw [e1] at hh
  obtain ⟨hh1, hh2, hh3⟩ := hh
  have s1 : ∀ t, t < a → byt (tx out) ((sgnL neg).length + t) = nb B t := fun t ht => by
    rw [byt_seg (sgnL neg) ((List.range a).map fun t => B t) ([46] ++ ((List.range b).map fun t => B (a + t))) (by rw [ho]; simp) _ t rfl (by simpa using ht), getD_map _ _ _ ht]
    rfl
  have s2 : byt (tx out) ((sgnL neg).length + a) = 46 := by
    rw [byt_seg (sgnL neg ++ (List.range a).map fun t => B t) [46] ((List.range b).map fun t => B (a + t)) (by rw [ho]; simp) _ 0 (by simp) (by decide)]
    rfl
  have s3 : ∀ t, t < b → byt (tx out) ((sgnL neg).length + a + 1 + t) = nb B (a + t) := fun t ht => by
    rw [byt_seg (sgnL neg ++ ((List.range a).map fun t => B t) ++ [46]) ((List.range b).map fun t => B (a + t)) [] (by rw [ho]; simp) _ t (by simp; omega) (by simpa using ht), getD_map _ _ _ ht]
    rfl
  have d1 : DigL (at_ (tx out) (sgnL neg).length) a := fun t ht => by
    show 48 ≤ byt (tx out) ((sgnL neg).length + t) ∧ byt (tx out) ((sgnL neg).length + t) ≤ 57
    rw [s1 t ht]; exact hd t (by omega)
  have d2 : DigL (at_ (tx out) ((sgnL neg).length + a + 1)) b := fun t ht => by
    show 48 ≤ byt (tx out) ((sgnL neg).length + a + 1 + t) ∧ byt (tx out) ((sgnL neg).length + a + 1 + t) ≤ 57
    rw [s3 t ht]; exact hd (a + t) (by omega)
  have hf : byt (tx out) (sgnL neg).length ≠ 48 := by
    have := s1 0 ha
    rw [Nat.add_zero] at this
    rw [this]
    show ((B 0).toNat : Int) ≠ 48
    omega
  have hval : dval (at_ (tx out) (sgnL neg).length) a * 10 ^ b + dval (at_ (tx out) ((sgnL neg).length + a + 1)) b = dval (nb B) nd := by
    rw [hab, dval_add, dval_same (at_ (tx out) (sgnL neg).length) (nb B) a s1, dval_same (at_ (tx out) ((sgnL neg).length + a + 1)) (fun t => nb B (a + t)) b s3]
  have hr := fun U => read_frac U (tx out) (sgnL neg).length a b hh2 d1 ha hf s2 d2 (by omega) (by rw [tx_size, hlen]; omega)
  rw [hval] at hr
  rw [← ho]
  exact reads_mk (by omega) (by omega) hh1 hh2 hh3 _ _ hr hpos hlt
/-- A number below one. -/
theorem reads_np (neg : Bool) (B : Nat → UInt8) (Z nd : Nat) (hZ : Z ≤ 3) (hnd : 0 < nd) (hd : DigL (nb B) nd) (hB : (B 0).toNat ≠ 48) (hn : nd ≤ 18) (hlt : dval (nb B) nd < 144115188075855872) :
    Reads (sgnL neg ++ ([48] ++ [46] ++ List.replicate Z 48 ++ ((List.range nd).map fun t => B t))) neg ((dval (nb B) nd : Rat) * (10 : Rat) ^ (-(Z : Int) - nd)) := by
  have h0 : 48 ≤ (B 0).toNat ∧ (B 0).toNat ≤ 57 := by have := hd 0 hnd; unfold nb at this; omega
  have hs := sgnL_le neg
  have hpos := dval_pos (nb B) (by show 48 < ((B 0).toNat : Int); omega) nd hnd hd
  have hin := dval_in (nb B) nd hd
  obtain ⟨out, ho⟩ : ∃ out, out = sgnL neg ++ ([48] ++ [46] ++ List.replicate Z 48 ++ ((List.range nd).map fun t => B t)) := ⟨_, rfl⟩
  have hlen : out.length = (sgnL neg).length + (2 + Z + nd) := by rw [ho]; simp; omega
  have hh := head_of neg 48 ([46] ++ List.replicate Z 48 ++ ((List.range nd).map fun t => B t)) (by decide) (by decide)
  have e1 : sgnL neg ++ 48 :: ([46] ++ List.replicate Z 48 ++ ((List.range nd).map fun t => B t)) = out := by rw [ho]; rfl
  rw [e1] at hh
  obtain ⟨hh1, hh2, hh3⟩ := hh
  have s0 : byt (tx out) (sgnL neg).length = 48 := by
    rw [byt_seg (sgnL neg) [48] ([46] ++ List.replicate Z 48 ++ ((List.range nd).map fun t => B t)) (by rw [ho]; simp) _ 0 (by simp) (by decide)]
    rfl
  have s1 : byt (tx out) ((sgnL neg).length + 1) = 46 := by
    rw [byt_seg (sgnL neg ++ [48]) [46] (List.replicate Z 48 ++ ((List.range nd).map fun t => B t)) (by rw [ho]; simp) _ 0 (by simp) (by decide)]
    rfl
  have s2 : ∀ t, t < Z → byt (tx out) ((sgnL neg).length + 2 + t) = 48 := fun t ht => by
    rw [byt_seg (sgnL neg ++ [48] ++ [46]) (List.replicate Z 48) ((List.range nd).map fun t => B t) (by rw [ho]; simp) _ t (by simp) (by simpa using ht), getD_rep _ _ _ ht]
    rfl
  have s3 : ∀ t, t < nd → byt (tx out) ((sgnL neg).length + 2 + Z + t) = nb B t := fun t ht => by
    rw [byt_seg (sgnL neg ++ [48] ++ [46] ++ List.replicate Z 48) ((List.range nd).map fun t => B t) [] (by rw [ho]; simp) _ t (by simp; omega) (by simpa using ht), getD_map _ _ _ ht]
    rfl
  have d1 : DigL (at_ (tx out) ((sgnL neg).length + 2 + Z)) nd := fun t ht => by
    show 48 ≤ byt (tx out) ((sgnL neg).length + 2 + Z + t) ∧ byt (tx out) ((sgnL neg).length + 2 + Z + t) ≤ 57
    rw [s3 t ht]; exact hd t (by omega)
  have hf : byt (tx out) ((sgnL neg).length + 2 + Z) ≠ 48 := by
    have := s3 0 hnd
    rw [Nat.add_zero] at this
    rw [this]
    show ((B 0).toNat : Int) ≠ 48
    omega
  have hval : dval (at_ (tx out) ((sgnL neg).length + 2 + Z)) nd = dval (nb B) nd := dval_same (at_ (tx out) ((sgnL neg).length + 2 + Z)) (nb B) nd s3
  have hr := fun U => read_small U (tx out) (sgnL neg).length Z nd hh2 s0 s1 s2 d1 hnd hf hn (by rw [tx_size, hlen]; omega)
  rw [hval] at hr
  rw [← ho]
  exact reads_mk (by omega) (by omega) hh1 hh2 hh3 _ _ hr hpos hlt
/-- The exponent's digits. -/
def xlB (E : Nat) : List UInt8 := if E < 10 then [48, UInt8.ofNat (48 + E)] else if E < 100 then [UInt8.ofNat (48 + E / 10), UInt8.ofNat (48 + E % 10)] else [UInt8.ofNat (48 + E / 100), UInt8.ofNat (48 + E / 10 % 10), UInt8.ofNat (48 + E % 10)]
theorem ofN (n : Nat) (h : n < 256) : (UInt8.ofNat n).toNat = n := by rw [UInt8.toNat_ofNat']; exact Nat.mod_eq_of_lt h
theorem xlB_ok (E : Nat) (h : E < 1000) : 2 ≤ (xlB E).length ∧ (xlB E).length ≤ 3 ∧ DigL (fun t => (((xlB E).getD t 0).toNat : Int)) (xlB E).length ∧ dval (fun t => (((xlB E).getD t 0).toNat : Int)) (xlB E).length = E := by
  unfold xlB
  split
  · rename_i h1
    have e1 := ofN (48 + E) (by omega)
    refine ⟨Nat.le_refl 2, Nat.le_succ 2, fun t ht => ?_, ?_⟩
    · have ht : t < 2 := ht
      rcases (by omega : t = 0 ∨ t = 1) with rfl | rfl
      · show (48 : Int) ≤ 48 ∧ (48 : Int) ≤ 57
        omega
      · show 48 ≤ ((UInt8.ofNat (48 + E)).toNat : Int) ∧ ((UInt8.ofNat (48 + E)).toNat : Int) ≤ 57
        omega
    · show (0 * 10 + (48 - 48)) * 10 + (((UInt8.ofNat (48 + E)).toNat : Int) - 48) = E
      omega
  · split
    · rename_i h1 h2
      have e1 := ofN (48 + E / 10) (by omega)
      have e2 := ofN (48 + E % 10) (by omega)
      refine ⟨Nat.le_refl 2, Nat.le_succ 2, fun t ht => ?_, ?_⟩
      · have ht : t < 2 := ht
        rcases (by omega : t = 0 ∨ t = 1) with rfl | rfl
        · show 48 ≤ ((UInt8.ofNat (48 + E / 10)).toNat : Int) ∧ ((UInt8.ofNat (48 + E / 10)).toNat : Int) ≤ 57
          omega
        · show 48 ≤ ((UInt8.ofNat (48 + E % 10)).toNat : Int) ∧ ((UInt8.ofNat (48 + E % 10)).toNat : Int) ≤ 57
          omega
      · show (0 * 10 + (((UInt8.ofNat (48 + E / 10)).toNat : Int) - 48)) * 10 + (((UInt8.ofNat (48 + E % 10)).toNat : Int) - 48) = E
        omega
    · rename_i h1 h2
      have e1 := ofN (48 + E / 100) (by omega)
      have e2 := ofN (48 + E / 10 % 10) (by omega)
      have e3 := ofN (48 + E % 10) (by omega)
      refine ⟨Nat.le_succ 2, Nat.le_refl 3, fun t ht => ?_, ?_⟩
      · have ht : t < 3 := ht
        rcases (by omega : t = 0 ∨ t = 1 ∨ t = 2) with rfl | rfl | rfl
        · show 48 ≤ ((UInt8.ofNat (48 + E / 100)).toNat : Int) ∧ ((UInt8.ofNat (48 + E / 100)).toNat : Int) ≤ 57
          omega
        · show 48 ≤ ((UInt8.ofNat (48 + E / 10 % 10)).toNat : Int) ∧ ((UInt8.ofNat (48 + E / 10 % 10)).toNat : Int) ≤ 57
          omega
        · show 48 ≤ ((UInt8.ofNat (48 + E % 10)).toNat : Int) ∧ ((UInt8.ofNat (48 + E % 10)).toNat : Int) ≤ 57
          omega
      · show ((0 * 10 + (((UInt8.ofNat (48 + E / 100)).toNat : Int) - 48)) * 10 + (((UInt8.ofNat (48 + E / 10 % 10)).toNat : Int) - 48)) * 10 + (((UInt8.ofNat (48 + E % 10)).toNat : Int) - 48) = E
        omega
/-- One digit and an exponent. -/
theorem reads_e1 (neg lo : Bool) (B : Nat → UInt8) (E nd : Nat) (h1 : nd = 1) (hnd : 0 < nd) (hE : E < 1000) (hd : DigL (nb B) nd) (hB : (B 0).toNat ≠ 48) :
    Reads (sgnL neg ++ ([B 0] ++ [101] ++ [if lo = true then 45 else 43] ++ xlB E)) neg ((dval (nb B) nd : Rat) * (10 : Rat) ^ (if lo = true then -(E : Int) else (E : Int))) := by
  have h0 : 48 ≤ (B 0).toNat ∧ (B 0).toNat ≤ 57 := by have := hd 0 hnd; unfold nb at this; omega
  have hs := sgnL_le neg
  have hpos := dval_pos (nb B) (by show 48 < ((B 0).toNat : Int); omega) nd hnd hd
  have hin := dval_in (nb B) nd hd
  obtain ⟨x1, x2, x3, x4⟩ := xlB_ok E hE
  obtain ⟨X, hX⟩ : ∃ X, X = xlB E := ⟨_, rfl⟩
  rw [← hX] at x1 x2 x3 x4 ⊢
  obtain ⟨c, hc⟩ : ∃ c : UInt8, c = if lo = true then 45 else 43 := ⟨_, rfl⟩
  have hc1 : c.toNat = if lo = true then 45 else 43 := by rw [hc]; cases lo <;> rfl
  rw [← hc]
  obtain ⟨out, ho⟩ : ∃ out, out = sgnL neg ++ ([B 0] ++ [101] ++ [c] ++ X) := ⟨_, rfl⟩
  have hlen : out.length = (sgnL neg).length + (3 + X.length) := by rw [ho]; simp; omega
  have hh := head_of neg (B 0) ([101] ++ [c] ++ X) h0.1 h0.2
  have e1 : sgnL neg ++ B 0 :: ([101] ++ [c] ++ X) = out := by rw [ho]; rfl
  rw [e1] at hh
  obtain ⟨hh1, hh2, hh3⟩ := hh
  have s0 : byt (tx out) (sgnL neg).length = nb B 0 := by
    rw [byt_seg (sgnL neg) [B 0] ([101] ++ [c] ++ X) (by rw [ho]; simp) _ 0 (by simp) (by simp)]
    rfl
  have s1 : byt (tx out) ((sgnL neg).length + 1) = 101 := by
    rw [byt_seg (sgnL neg ++ [B 0]) [101] ([c] ++ X) (by rw [ho]; simp) _ 0 (by simp) (by decide)]
    rfl
  have s2 : byt (tx out) ((sgnL neg).length + 2) = c.toNat := by
    rw [byt_seg (sgnL neg ++ [B 0] ++ [101]) [c] X (by rw [ho]; simp) _ 0 (by simp) (by simp)]
    rfl
  have s3 : ∀ t, t < X.length → byt (tx out) ((sgnL neg).length + 3 + t) = ((X.getD t 0).toNat : Int) := fun t ht => by
    rw [byt_seg (sgnL neg ++ [B 0] ++ [101] ++ [c]) X [] (by rw [ho]; simp) _ t (by simp) ht]
  have d1 : DigL (at_ (tx out) ((sgnL neg).length + 3)) X.length := fun t ht => by
    show 48 ≤ byt (tx out) ((sgnL neg).length + 3 + t) ∧ byt (tx out) ((sgnL neg).length + 3 + t) ≤ 57
    rw [s3 t ht]; exact x3 t ht
  have hv3 : dval (at_ (tx out) ((sgnL neg).length + 3)) X.length = E := by rw [dval_same (at_ (tx out) ((sgnL neg).length + 3)) (fun t => ((X.getD t 0).toNat : Int)) X.length s3, x4]
  have hf : byt (tx out) (sgnL neg).length ≠ 48 := by
    rw [s0]
    show ((B 0).toNat : Int) ≠ 48
    omega
  have hdd : 48 ≤ byt (tx out) (sgnL neg).length ∧ byt (tx out) (sgnL neg).length ≤ 57 := by rw [s0]; exact hd 0 hnd
  have hr := fun U => read_e1 U (tx out) (sgnL neg).length X.length c.toNat hh2 hdd hf s1 s2 (by rw [hc1]; cases lo <;> decide) (by omega) (by omega) d1 (by rw [tx_size, hlen]; omega)
  have hv : dval (nb B) nd = byt (tx out) (sgnL neg).length - 48 := by
    rw [h1, s0]
    show 0 * 10 + (nb B 0 - 48) = nb B 0 - 48
    omega
  have hp : (if (c.toNat : Int) = 45 then -(dval (at_ (tx out) ((sgnL neg).length + 3)) X.length) else dval (at_ (tx out) ((sgnL neg).length + 3)) X.length) = (if lo = true then -(E : Int) else (E : Int)) := by
    rw [hv3, hc1]
    cases lo <;> rfl
  rw [hp, ← hv] at hr
  rw [← ho]
  refine reads_mk (by omega) (by omega) hh1 hh2 hh3 _ _ hr hpos ?_
  rw [h1] at hin
  have h10 : (10 : Int) ^ 1 = 10 := by decide
  rw [h1]
  omega
/-- More digits and an exponent. -/
theorem reads_em (neg lo : Bool) (B : Nat → UInt8) (E n nd : Nat) (h1 : nd = 1 + n) (hnd : 0 < nd) (hE : E < 1000) (hd : DigL (nb B) nd) (hB : (B 0).toNat ≠ 48) (hn : nd ≤ 18) (hlt : dval (nb B) nd < 144115188075855872) :
    Reads (sgnL neg ++ ([B 0] ++ [46] ++ ((List.range n).map fun t => B (1 + t)) ++ [101] ++ [if lo = true then 45 else 43] ++ xlB E)) neg ((dval (nb B) nd : Rat) * (10 : Rat) ^ ((if lo = true then -(E : Int) else (E : Int)) - n)) := by
  have h0 : 48 ≤ (B 0).toNat ∧ (B 0).toNat ≤ 57 := by have := hd 0 hnd; unfold nb at this; omega
  have hs := sgnL_le neg
  have hpos := dval_pos (nb B) (by show 48 < ((B 0).toNat : Int); omega) nd hnd hd
  have hin := dval_in (nb B) nd hd
  obtain ⟨x1, x2, x3, x4⟩ := xlB_ok E hE
  obtain ⟨X, hX⟩ : ∃ X, X = xlB E := ⟨_, rfl⟩
  rw [← hX] at x1 x2 x3 x4 ⊢
  obtain ⟨c, hc⟩ : ∃ c : UInt8, c = if lo = true then 45 else 43 := ⟨_, rfl⟩
  have hc1 : c.toNat = if lo = true then 45 else 43 := by rw [hc]; cases lo <;> rfl
  rw [← hc]
  obtain ⟨DL, hDL⟩ : ∃ DL, DL = (List.range n).map fun t => B (1 + t) := ⟨_, rfl⟩
  have hDLl : DL.length = n := by rw [hDL]; simp
  have hDLg : ∀ t, t < n → DL.getD t 0 = B (1 + t) := fun t ht => by rw [hDL]; exact getD_map _ _ _ ht
  rw [← hDL]
  obtain ⟨out, ho⟩ : ∃ out, out = sgnL neg ++ ([B 0] ++ [46] ++ DL ++ [101] ++ [c] ++ X) := ⟨_, rfl⟩
  have hlen : out.length = (sgnL neg).length + (4 + n + X.length) := by rw [ho]; simp; omega
  have hh := head_of neg (B 0) ([46] ++ DL ++ [101] ++ [c] ++ X) h0.1 h0.2
  have e1 : sgnL neg ++ B 0 :: ([46] ++ DL ++ [101] ++ [c] ++ X) = out := by rw [ho]; rfl
  rw [e1] at hh
  obtain ⟨hh1, hh2, hh3⟩ := hh
  have s0 : byt (tx out) (sgnL neg).length = nb B 0 := by
    rw [byt_seg (sgnL neg) [B 0] ([46] ++ DL ++ [101] ++ [c] ++ X) (by rw [ho]; simp) _ 0 (by simp) (by simp)]
    rfl
  have sd : byt (tx out) ((sgnL neg).length + 1) = 46 := by
    rw [byt_seg (sgnL neg ++ [B 0]) [46] (DL ++ [101] ++ [c] ++ X) (by rw [ho]; simp) _ 0 (by simp) (by decide)]
    rfl
  have sg : ∀ t, t < n → byt (tx out) ((sgnL neg).length + 2 + t) = nb B (1 + t) := fun t ht => by
    rw [byt_seg (sgnL neg ++ [B 0] ++ [46]) DL ([101] ++ [c] ++ X) (by rw [ho]; simp) _ t (by simp) (by omega), hDLg t ht]
    rfl
  have s1 : byt (tx out) ((sgnL neg).length + 2 + n) = 101 := by
    rw [byt_seg (sgnL neg ++ [B 0] ++ [46] ++ DL) [101] ([c] ++ X) (by rw [ho]; simp) _ 0 (by simp; omega) (by decide)]
    rfl
  have s2 : byt (tx out) ((sgnL neg).length + 3 + n) = c.toNat := by
    rw [byt_seg (sgnL neg ++ [B 0] ++ [46] ++ DL ++ [101]) [c] X (by rw [ho]; simp) _ 0 (by simp; omega) (by simp)]
    rfl
  have s3 : ∀ t, t < X.length → byt (tx out) ((sgnL neg).length + 4 + n + t) = ((X.getD t 0).toNat : Int) := fun t ht => by
    rw [byt_seg (sgnL neg ++ [B 0] ++ [46] ++ DL ++ [101] ++ [c]) X [] (by rw [ho]; simp) _ t (by simp; omega) ht]
  have d0 : DigL (at_ (tx out) ((sgnL neg).length + 2)) n := fun t ht => by
    show 48 ≤ byt (tx out) ((sgnL neg).length + 2 + t) ∧ byt (tx out) ((sgnL neg).length + 2 + t) ≤ 57
    rw [sg t ht]; exact hd (1 + t) (by omega)
  have d1 : DigL (at_ (tx out) ((sgnL neg).length + 4 + n)) X.length := fun t ht => by
    show 48 ≤ byt (tx out) ((sgnL neg).length + 4 + n + t) ∧ byt (tx out) ((sgnL neg).length + 4 + n + t) ≤ 57
    rw [s3 t ht]; exact x3 t ht
  have hv3 : dval (at_ (tx out) ((sgnL neg).length + 4 + n)) X.length = E := by rw [dval_same (at_ (tx out) ((sgnL neg).length + 4 + n)) (fun t => ((X.getD t 0).toNat : Int)) X.length s3, x4]
  have hf : byt (tx out) (sgnL neg).length ≠ 48 := by
    rw [s0]
    show ((B 0).toNat : Int) ≠ 48
    omega
  have hdd : 48 ≤ byt (tx out) (sgnL neg).length ∧ byt (tx out) (sgnL neg).length ≤ 57 := by rw [s0]; exact hd 0 hnd
  have hr := fun U => read_em U (tx out) (sgnL neg).length n X.length c.toNat hh2 hdd hf sd d0 (by omega) s1 s2 (by rw [hc1]; cases lo <;> decide) (by omega) (by omega) d1 (by rw [tx_size, hlen]; omega)
  have hv : dval (nb B) nd = (byt (tx out) (sgnL neg).length - 48) * 10 ^ n + dval (at_ (tx out) ((sgnL neg).length + 2)) n := by
    rw [h1, dval_add, s0, dval_same (at_ (tx out) ((sgnL neg).length + 2)) (fun t => nb B (1 + t)) n sg]
    congr 2
    show 0 * 10 + (nb B 0 - 48) = nb B 0 - 48
    omega
  have hp : (if (c.toNat : Int) = 45 then -(dval (at_ (tx out) ((sgnL neg).length + 4 + n)) X.length) else dval (at_ (tx out) ((sgnL neg).length + 4 + n)) X.length) = (if lo = true then -(E : Int) else (E : Int)) := by
    rw [hv3, hc1]
    cases lo <;> rfl
  rw [hp, ← hv] at hr
  rw [← ho]
  exact reads_mk (by omega) (by omega) hh1 hh2 hh3 _ _ hr hpos hlt
end Go.Proofs.YtnggkkdcddpjlaaGreatDoor
namespace Go.Proofs.YtnggkkdcddpjlaaGreatDoor
open Go.RowKit
set_option linter.unusedVariables false
set_option maxRecDepth 100000
theorem dg_nat (u j : Nat) : (Lib.dg u j).toNat = 48 + u / 10 ^ j % 10 := ofN _ (by have := Nat.mod_lt (u / 10 ^ j) (show 0 < 10 by decide); omega)
theorem dg_dig (u N n : Nat) : DigL (nb fun t => Lib.dg u (N - 1 - t)) n := fun t ht => by
  show 48 ≤ ((Lib.dg u (N - 1 - t)).toNat : Int) ∧ ((Lib.dg u (N - 1 - t)).toNat : Int) ≤ 57
  rw [dg_nat]
  have := Nat.mod_lt (u / 10 ^ (N - 1 - t)) (show 0 < 10 by decide)
  omega
theorem dg_val (u N : Nat) (hu : u < 10 ^ N) : ∀ n, n ≤ N → dval (nb fun t => Lib.dg u (N - 1 - t)) n = ((u / 10 ^ (N - n) : Nat) : Int)
  | 0, _ => by
    have : u / 10 ^ (N - 0) = 0 := Nat.div_eq_of_lt hu
    rw [this]
    rfl
  | n + 1, h => by
    show dval (nb fun t => Lib.dg u (N - 1 - t)) n * 10 + (((Lib.dg u (N - 1 - n)).toNat : Int) - 48) = _
    rw [dg_val u N hu n (by omega), dg_nat]
    have e1 : N - n = N - 1 - n + 1 := by omega
    have e2 : N - (n + 1) = N - 1 - n := by omega
    rw [e1, e2, Nat.pow_succ, ← Nat.div_div_eq_div_mul]
    omega
theorem trim_zero (u N : Nat) : ∀ k j, trimD u N k ≤ j → j < k → Lib.dg u (N - 1 - j) = 48
  | 0, j, _, h => by omega
  | k + 1, j, h1, h2 => by
    unfold trimD at h1
    split at h1
    · rename_i h
      rcases (by omega : j < k ∨ j = k) with h3 | h3
      · exact trim_zero u N k j h1 h3
      · rw [h3]; exact h
    · omega
theorem trim_val (u N : Nat) (hu : u < 10 ^ N) : ((u : Nat) : Int) = dval (nb fun t => Lib.dg u (N - 1 - t)) (trimD u N N) * 10 ^ (N - trimD u N N) := by
  have hle := trimD_le u N N
  have h1 := dg_val u N hu N (Nat.le_refl _)
  rw [Nat.sub_self, Nat.pow_zero, Nat.div_one] at h1
  rw [← h1]
  have e : N = trimD u N N + (N - trimD u N N) := by omega
  have h2 := dval_add (nb fun t => Lib.dg u (N - 1 - t)) (trimD u N N) (N - trimD u N N)
  rw [← e] at h2
  rw [h2, dval_zeros _ (N - trimD u N N) (fun t ht => by
    show ((Lib.dg u (N - 1 - (trimD u N N + t))).toNat : Int) = 48
    rw [trim_zero u N N (trimD u N N + t) (by omega) (by omega)]
    rfl)]
  omega
/-- The digits of d, the first ahead. -/
theorem digs_ok (d : Nat) (hd0 : 0 < d) (hd : d ≤ 100000000000000000) :
    0 < trimD d (nd0 d) (nd0 d) ∧ trimD d (nd0 d) (nd0 d) ≤ 18 ∧ (Lib.dg d (nd0 d - 1 - 0)).toNat ≠ 48 ∧ dval (nb fun t => Lib.dg d (nd0 d - 1 - t)) (trimD d (nd0 d) (nd0 d)) < 144115188075855872 ∧ nd0 d ≤ 18 ∧ 0 < nd0 d ∧
    ∀ q : Int, (dval (nb fun t => Lib.dg d (nd0 d - 1 - t)) (trimD d (nd0 d) (nd0 d)) : Rat) * (10 : Rat) ^ ((nd0 d : Int) + q - (trimD d (nd0 d) (nd0 d) : Int)) = (d : Rat) * (10 : Rat) ^ q := by
  have e0 : nd0 d = Lib.nDigits d := by unfold nd0; rw [if_neg (by omega)]
  rw [e0]
  obtain ⟨N, hN⟩ : ∃ N, N = Lib.nDigits d := ⟨_, rfl⟩
  have hN1 : 1 ≤ N := by rw [hN]; exact Lib.nDigits_pos d
  have hlt : d < 10 ^ N := by rw [hN]; exact Lib.lt_pow_nDigits d
  have hlow : 10 ^ (N - 1) ≤ d := by
    refine Decidable.byContradiction fun hc => ?_
    -- fewer digits would do
    have key : ∀ k, d < 10 ^ k → 0 < k → Lib.nDigits d ≤ k := fun k => by
      intro hk h0
      have : ∀ (k u : Nat), u < 10 ^ k → 0 < k → Lib.nDigits u ≤ k := fun k => by
        induction k with
        | zero => intro u _ h; omega
        | succ k ih =>
          intro u hu _
          by_cases h10 : u < 10
          · rw [Lib.nDigits_small h10]; omega
          · rw [Lib.nDigits_big h10]
            have hk0 : 0 < k := by
              refine Nat.pos_of_ne_zero fun h => ?_
              rw [h] at hu
              exact h10 (by simpa using hu)
            have := ih (u / 10) (by rw [Nat.pow_succ] at hu; omega) hk0
            omega
      exact this k d hk h0
    by_cases h1 : N = 1
    · rw [h1] at hc
      simp at hc
      omega
    · have := key (N - 1) (by omega) (by omega)
      omega
  rw [← hN]
  have hN18 : N ≤ 18 := by
    refine Decidable.byContradiction fun hc => ?_
    have h1 : 10 ^ 18 ≤ 10 ^ (N - 1) := Nat.pow_le_pow_right (by decide) (by omega)
    have h2 : (10 : Nat) ^ 18 = 1000000000000000000 := by decide
    omega
  have hfirst : (Lib.dg d (N - 1 - 0)).toNat ≠ 48 := by
    rw [Nat.sub_zero, dg_nat]
    have hp : 0 < 10 ^ (N - 1) := Nat.pow_pos (by decide)
    have h1 : 1 ≤ d / 10 ^ (N - 1) := by rw [Nat.le_div_iff_mul_le hp]; omega
    have h2 : d / 10 ^ (N - 1) < 10 := by
      rw [Nat.div_lt_iff_lt_mul hp]
      have e : N = N - 1 + 1 := by omega
      have : 10 ^ N = 10 * 10 ^ (N - 1) := by
        conv => lhs; rw [e, Nat.pow_succ, Nat.mul_comm]
      omega
    omega
  have hle := trimD_le d N N
  have hpos : 0 < trimD d N N := by
    refine Nat.pos_of_ne_zero fun h => ?_
    exact hfirst (by rw [trim_zero d N N 0 (by omega) (by omega)]; rfl)
  have hv := trim_val d N hlt
  obtain ⟨T, hT⟩ : ∃ T, T = trimD d N N := ⟨_, rfl⟩
  rw [← hT] at hle hpos hv ⊢
  have hin := dval_in (nb fun t => Lib.dg d (N - 1 - t)) T (dg_dig d N T)
  obtain ⟨v, hvv⟩ : ∃ v, v = dval (nb fun t => Lib.dg d (N - 1 - t)) T := ⟨_, rfl⟩
  rw [← hvv] at hv hin ⊢
  have hp1 : (1 : Int) ≤ 10 ^ (N - T) := by
    have : (0 : Int) < 10 ^ (N - T) := Int.pow_pos (by decide)
    omega
  have hvd : v ≤ d := by
    rw [hv]
    have := Int.mul_le_mul_of_nonneg_left hp1 hin.1
    omega
  refine ⟨hpos, by omega, hfirst, by omega, hN18, by omega, fun q => ?_⟩
  have e1 : (d : Rat) = (v : Rat) * (10 : Rat) ^ (((N - T : Nat)) : Int) := by
    have h1 : ((d : Nat) : Rat) = (((d : Nat) : Int) : Rat) := (Rat.intCast_natCast d).symm
    rw [h1, hv, Rat.intCast_mul, ten_pow_cast]
  rw [e1, Rat.mul_assoc, ← ten_add]
  congr 2
  omega
end Go.Proofs.YtnggkkdcddpjlaaGreatDoor
