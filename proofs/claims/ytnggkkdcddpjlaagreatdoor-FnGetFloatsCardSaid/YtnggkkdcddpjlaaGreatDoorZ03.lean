/- strconv's decimal as plain arithmetic: its digits shifted to the left and to the right by powers of two. strconv's decimal in memory; trim. -/
import Derived.Test.YtnggkkdcddpjlaaGreatDoorZ02
import Derived.Deep.LoopGhost
import Derived.Outline
namespace Go.Proofs.YtnggkkdcddpjlaaGreatDoor
set_option linter.unusedVariables false
/-- A decimal as its memory holds it: its cells, how many are digits, the point's place. -/
structure Dec where
  d : Nat → Int
  nd : Nat
  dp : Int
  ng : Bool
  tr : Bool
def dupd (d : Nat → Int) (i : Nat) (v : Int) : Nat → Int := fun j => if j = i then v else d j
theorem upd_at (d : Nat → Int) (i : Nat) (v : Int) : dupd d i v i = v := if_pos rfl
theorem upd_ne (d : Nat → Int) (i : Nat) (v : Int) {j : Nat} (h : j ≠ i) : dupd d i v j = d j := if_neg h
def Dig (c : Int) : Prop := 48 ≤ c ∧ c ≤ 57
structure DecI (x : Dec) : Prop where
  nd0 : 0 < x.nd
  nd1 : x.nd ≤ 800
  dig : ∀ i, i < x.nd → Dig (x.d i)
  hd : 49 ≤ x.d 0
/-- How many digits stay when the noughts at the end go. -/
def trimN (d : Nat → Int) : Nat → Nat
  | 0 => 0
  | k + 1 => if d k = 48 then trimN d k else k + 1
theorem trimN_le (d : Nat → Int) : ∀ k, trimN d k ≤ k
  | 0 => Nat.le_refl _
  | k + 1 => by unfold trimN; have := trimN_le d k; split <;> omega
theorem trimN_pos (d : Nat → Int) (h : 49 ≤ d 0) : ∀ k, 0 < k → 0 < trimN d k
  | 0, hk => by omega
  | 1, _ => by
    show 0 < (if d 0 = 48 then trimN d 0 else 0 + 1)
    rw [if_neg (show ¬ d 0 = 48 by omega)]
    omega
  | k + 2, _ => by
    unfold trimN
    have := trimN_pos d h (k + 1) (by omega)
    split <;> omega
def trimX (x : Dec) : Dec := { x with nd := trimN x.d x.nd, dp := if trimN x.d x.nd = 0 then 0 else x.dp }
theorem trimX_ok {x : Dec} (h : DecI x) : DecI (trimX x) ∧ (trimX x).dp = x.dp := by
  have h1 := trimN_le x.d x.nd
  have h2 := trimN_pos x.d h.hd x.nd h.nd0
  refine ⟨⟨h2, ?_, fun i hi => h.dig i ?_, h.hd⟩, ?_⟩
  · show trimN x.d x.nd ≤ 800
    have := h.nd1
    omega
  · have hi' : i < trimN x.d x.nd := hi
    omega
  · show (if trimN x.d x.nd = 0 then 0 else x.dp) = x.dp
    rw [if_neg (by omega)]
/-- Powers of ten and of two. -/
def p10 : Nat → Int
  | 0 => 1
  | n + 1 => p10 n * 10
def p2 : Nat → Int
  | 0 => 1
  | n + 1 => p2 n * 2
theorem p10_pos : ∀ n, 0 < p10 n
  | 0 => by decide
  | n + 1 => by unfold p10; have := p10_pos n; omega
theorem p2_pos : ∀ n, 0 < p2 n
  | 0 => by decide
  | n + 1 => by unfold p2; have := p2_pos n; omega
theorem p10_add (a : Nat) : ∀ b, p10 (a + b) = p10 a * p10 b
  | 0 => by show p10 a = p10 a * 1; omega
  | b + 1 => by
    show p10 (a + b) * 10 = p10 a * (p10 b * 10)
    rw [p10_add a b, Int.mul_assoc]
theorem p2_mono (a : Nat) : ∀ b, p2 a ≤ p2 (a + b)
  | 0 => Int.le_refl _
  | b + 1 => by
    have h := p2_mono a b
    have := p2_pos (a + b)
    show p2 a ≤ p2 (a + b) * 2
    omega
theorem p2_le {a b : Nat} (h : a ≤ b) : p2 a ≤ p2 b := by
  have := p2_mono a (b - a)
  rwa [show a + (b - a) = b from by omega] at this
theorem p2_eq : ∀ n, p2 n = (2 : Int) ^ n
  | 0 => rfl
  | n + 1 => by show p2 n * 2 = _; rw [p2_eq n, Int.pow_succ]
/-- The value of the first digits. -/
def pv (g : Nat → Int) : Nat → Int
  | 0 => 0
  | m + 1 => pv g m * 10 + g m
def Digs (g : Nat → Int) : Prop := ∀ i, 0 ≤ g i ∧ g i ≤ 9
theorem pv_lo {g : Nat → Int} (hg : Digs g) (h0 : 1 ≤ g 0) : ∀ m, p10 m ≤ pv g (m + 1)
  | 0 => by show (1 : Int) ≤ 0 * 10 + g 0; omega
  | m + 1 => by
    have h := pv_lo hg h0 m
    have := (hg (m + 1)).1
    show p10 m * 10 ≤ pv g (m + 1) * 10 + g (m + 1)
    omega
theorem pv_nn {g : Nat → Int} (hg : Digs g) : ∀ m, 0 ≤ pv g m
  | 0 => Int.le_refl _
  | m + 1 => by
    have h := pv_nn hg m
    have := (hg m).1
    show 0 ≤ pv g m * 10 + g m
    omega
theorem pv_hi {g : Nat → Int} (hg : Digs g) : ∀ m, pv g m < p10 m
  | 0 => show (0 : Int) < 1 by decide
  | m + 1 => by
    have h := pv_hi hg m
    have := (hg m).2
    show pv g m * 10 + g m < p10 m * 10
    omega
theorem pv_pad {g : Nat → Int} (n : Nat) (h : ∀ i, n ≤ i → g i = 0) : ∀ j, pv g (n + j) = pv g n * p10 j
  | 0 => by show pv g n = pv g n * 1; omega
  | j + 1 => by
    show pv g (n + j) * 10 + g (n + j) = pv g n * (p10 j * 10)
    rw [pv_pad n h j, h (n + j) (by omega), ← Int.mul_assoc]
    omega
theorem pv_lt {g f : Nat → Int} (hg : Digs g) (hf : Digs f) (i : Nat) (h : pv g i < pv f i) : ∀ j, pv g (i + j) < pv f (i + j)
  | 0 => h
  | j + 1 => by
    have h1 := pv_lt hg hf i h j
    have h2 := (hg (i + j)).2
    have h3 := (hf (i + j)).1
    show pv g (i + j) * 10 + g (i + j) < pv f (i + j) * 10 + f (i + j)
    omega
/-- Whether the digits' prefix is lexically less than the cutoff. -/
def pltF (d c : Nat → Int) (nd : Nat) : Nat → Nat → Bool
  | 0, _ => false
  | j + 1, i => if nd ≤ i then true else if d i = c i then pltF d c nd j (i + 1) else decide (d i < c i)
/-- The digits' values, noughts behind them. -/
def val (d : Nat → Int) (n i : Nat) : Int := if i < n then d i - 48 else 0
theorem val_digs {d : Nat → Int} {n : Nat} (h : ∀ i, i < n → Dig (d i)) : Digs (val d n) := fun i => by
  unfold val
  split
  · have h1 := (h i (by assumption)).1
    have h2 := (h i (by assumption)).2
    omega
  · omega
theorem val_in {d : Nat → Int} {n i : Nat} (h : i < n) : val d n i = d i - 48 := if_pos h
theorem val_out {d : Nat → Int} {n i : Nat} (h : n ≤ i) : val d n i = 0 := if_neg (by omega)
theorem plt_spec {d c : Nat → Int} {nd L : Nat} (hd : ∀ i, i < nd → Dig (d i)) (hc : ∀ i, i < L → Dig (c i)) (hL : 0 < L) (hlast : c (L - 1) ≠ 48) :
    ∀ j i, i + j = L → pv (val d nd) i = pv (val c L) i →
      (pltF d c nd j i = true → pv (val d nd) L < pv (val c L) L) ∧ (pltF d c nd j i = false → pv (val c L) L < pv (val d nd) L ∨ pv (val c L) L = pv (val d nd) L)
  | 0, i, hi, he => by
    obtain rfl : i = L := by omega
    refine ⟨fun h => ?_, fun _ => Or.inr he.symm⟩
    unfold pltF at h
    cases h
  | j + 1, i, hi, he => by
    have hD := val_digs hd
    have hC := val_digs hc
    unfold pltF
    by_cases h1 : nd ≤ i
    · rw [if_pos h1]
      refine ⟨fun _ => ?_, fun h => by cases h⟩
      have hle : ∀ m, pv (val d nd) (i + m) ≤ pv (val c L) (i + m) := by
        intro m
        induction m with
        | zero => exact Int.le_of_eq he
        | succ m ih =>
          have h2 := (hC (i + m)).1
          have h3 : val d nd (i + m) = 0 := val_out (by omega)
          show pv (val d nd) (i + m) * 10 + val d nd (i + m) ≤ pv (val c L) (i + m) * 10 + val c L (i + m)
          rw [h3]
          omega
      have h4 := hle (L - 1 - i)
      rw [show i + (L - 1 - i) = L - 1 from by omega] at h4
      have h5 : val d nd (L - 1) = 0 := val_out (by omega)
      have h6 : val c L (L - 1) = c (L - 1) - 48 := val_in (by omega)
      have h7 := (hc (L - 1) (by omega)).1
      obtain ⟨M, hM⟩ : ∃ M, L = M + 1 := ⟨L - 1, by omega⟩
      have h8 : pv (val d nd) L = pv (val d nd) (L - 1) * 10 + val d nd (L - 1) := by rw [hM]; rfl
      have h9 : pv (val c L) L = pv (val c L) (L - 1) * 10 + val c L (L - 1) := by
        have : ∀ (f : Nat → Int) (n : Nat), n = M + 1 → pv f n = pv f (n - 1) * 10 + f (n - 1) := fun f n e => by rw [e]; rfl
        exact this _ _ hM
      rw [h8, h9, h5, h6]
      omega
    · rw [if_neg h1]
      by_cases h2 : d i = c i
      · rw [if_pos h2]
        refine plt_spec hd hc hL hlast j (i + 1) (by omega) ?_
        show pv (val d nd) i * 10 + val d nd i = pv (val c L) i * 10 + val c L i
        rw [he, val_in (by omega), val_in (show i < L by omega), h2]
      · rw [if_neg h2]
        have h3 : val d nd i = d i - 48 := val_in (by omega)
        have h4 : val c L i = c i - 48 := val_in (by omega)
        refine ⟨fun h => ?_, fun h => Or.inl ?_⟩
        · have h5 : d i < c i := of_decide_eq_true h
          have h6 := pv_lt hD hC (i + 1) (by
            show pv (val d nd) i * 10 + val d nd i < pv (val c L) i * 10 + val c L i
            rw [he, h3, h4]
            omega) (L - (i + 1))
          rwa [show i + 1 + (L - (i + 1)) = L from by omega] at h6
        · have h5 : ¬ d i < c i := of_decide_eq_false h
          have h6 := pv_lt hC hD (i + 1) (by
            show pv (val c L) i * 10 + val c L i < pv (val d nd) i * 10 + val d nd i
            rw [he, h3, h4]
            omega) (L - (i + 1))
          rwa [show i + 1 + (L - (i + 1)) = L from by omega] at h6
/-- What the cheat sheet's row of a shift says: K = 2^k, D new digits, the cutoff's digits are those of 5^k. -/
structure Cheat (k : Nat) (K : Int) (D L : Nat) (c : Nat → Int) : Prop where
  D0 : 0 < D
  L0 : 0 < L
  sum : k + 1 = D + L
  dig : ∀ i, i < L → Dig (c i)
  last : c (L - 1) ≠ 48
  lo : p10 (D - 1) ≤ K
  hi : K < p10 D
  five : K * pv (val c L) L = p10 k
theorem mul_lt {a b c : Int} (hc : 0 < c) (h : a * c < b * c) : a < b := Int.lt_of_mul_lt_mul_right h (Int.le_of_lt hc)
theorem mul_le {a b c : Int} (hc : 0 < c) (h : a * c ≤ b * c) : a ≤ b := Int.le_of_mul_le_mul_right h hc
/-- By how many digits a shift to the left lengthens a decimal. -/
def newD (d c : Nat → Int) (nd D L : Nat) : Nat := if pltF d c nd L 0 = true then D - 1 else D
theorem new_bounds {k D L : Nat} {K : Int} {c : Nat → Int} (h : Cheat k K D L c) {d : Nat → Int} {nd : Nat} (hd : ∀ i, i < nd → Dig (d i)) (h0 : 49 ≤ d 0) (hn : 0 < nd) :
    pv (val d nd) nd * K < p10 nd * p10 (newD d c nd D L) ∧ p10 nd * p10 (newD d c nd D L) ≤ pv (val d nd) nd * K * 10 := by
  have hD := val_digs hd
  have hK : 0 < K := Int.lt_of_lt_of_le (p10_pos _) h.lo
  obtain ⟨s1, s2⟩ := plt_spec hd h.dig h.L0 h.last L 0 (by omega) rfl
  -- the digits' value carried to nd + L places
  have e1 : pv (val d nd) (nd + L) = pv (val d nd) nd * p10 L := pv_pad nd (fun i hi => val_out hi) L
  have e2 : pv (val c L) (L + nd) = pv (val c L) L * p10 nd := pv_pad L (fun i hi => val_out hi) nd
  have five := h.five
  have hsum := h.sum
  generalize hN : pv (val d nd) nd = N at *
  have hNlo : p10 nd ≤ N * 10 := by
    obtain ⟨m, rfl⟩ : ∃ m, nd = m + 1 := ⟨nd - 1, by omega⟩
    have := pv_lo hD (by rw [val_in hn]; omega) m
    rw [hN] at this
    show p10 m * 10 ≤ N * 10
    omega
  have hNhi : N < p10 nd := by rw [← hN]; exact pv_hi hD nd
  have hN0 : 0 ≤ N := by rw [← hN]; exact pv_nn hD nd
  unfold newD
  by_cases hp : pltF d c nd L 0 = true
  · rw [if_pos hp]
    have h1 := s1 hp
    have h2 := pv_lt hD (val_digs h.dig) L h1 nd
    rw [Nat.add_comm L nd, e1, Nat.add_comm nd L, e2] at h2
    have h3 : N * p10 L * K < pv (val c L) L * p10 nd * K := Int.mul_lt_mul_of_pos_right h2 hK
    have h4 : pv (val c L) L * p10 nd * K = p10 (D - 1) * p10 L * p10 nd := by
      rw [← p10_add, show D - 1 + L = k from by have := h.D0; omega, ← five]
      rw [Int.mul_comm K, Int.mul_assoc, Int.mul_comm (p10 nd), ← Int.mul_assoc]
    refine ⟨mul_lt (p10_pos L) ?_, ?_⟩
    · have h5 : N * K * p10 L = N * p10 L * K := by rw [Int.mul_assoc, Int.mul_comm K, ← Int.mul_assoc]
      have h6 : p10 nd * p10 (D - 1) * p10 L = p10 (D - 1) * p10 L * p10 nd := by rw [Int.mul_assoc, Int.mul_comm]
      rw [h5, h6, ← h4]
      exact h3
    · have h5 : p10 nd * p10 (D - 1) ≤ N * 10 * p10 (D - 1) := Int.mul_le_mul_of_nonneg_right hNlo (Int.le_of_lt (p10_pos _))
      have h6 : N * 10 * p10 (D - 1) ≤ N * 10 * K := Int.mul_le_mul_of_nonneg_left h.lo (by omega)
      have h7 : N * K * 10 = N * 10 * K := by rw [Int.mul_assoc, Int.mul_comm K, ← Int.mul_assoc]
      rw [h7]
      exact Int.le_trans h5 h6
  · rw [if_neg hp]
    have hp' : pltF d c nd L 0 = false := by simpa using hp
    have h2 : pv (val c L) (L + nd) ≤ pv (val d nd) (L + nd) := by
      rcases s2 hp' with h1 | h1
      · exact Int.le_of_lt (pv_lt (val_digs h.dig) hD L h1 nd)
      · have : ∀ m, pv (val c L) (L + m) ≤ pv (val d nd) (L + m) := by
          intro m
          induction m with
          | zero => exact Int.le_of_eq h1
          | succ m ih =>
            have h3 : val c L (L + m) = 0 := val_out (by omega)
            have h4 := (hD (L + m)).1
            show pv (val c L) (L + m) * 10 + val c L (L + m) ≤ pv (val d nd) (L + m) * 10 + val d nd (L + m)
            rw [h3]
            omega
        exact this nd
    rw [e2, Nat.add_comm L nd, e1] at h2
    have h3 : pv (val c L) L * p10 nd * K ≤ N * p10 L * K := Int.mul_le_mul_of_nonneg_right h2 (Int.le_of_lt hK)
    have h4 : pv (val c L) L * p10 nd * K = p10 (D - 1) * p10 L * p10 nd := by
      rw [← p10_add, show D - 1 + L = k from by have := h.D0; omega, ← five]
      rw [Int.mul_comm K, Int.mul_assoc, Int.mul_comm (p10 nd), ← Int.mul_assoc]
    refine ⟨?_, mul_le (p10_pos L) ?_⟩
    · have h5 : N * K ≤ p10 nd * K := Int.mul_le_mul_of_nonneg_right (Int.le_of_lt hNhi) (Int.le_of_lt hK)
      exact Int.lt_of_le_of_lt h5 (Int.mul_lt_mul_of_pos_left h.hi (p10_pos nd))
    · have h5 : N * K * 10 * p10 L = N * p10 L * K * 10 := by
        rw [Int.mul_assoc N K 10, Int.mul_assoc N, Int.mul_assoc N (p10 L), Int.mul_assoc N, Int.mul_comm (K * 10), Int.mul_assoc (p10 L)]
      have h6 : p10 nd * p10 D * p10 L = p10 (D - 1) * p10 L * p10 nd * 10 := by
        have h7 : p10 D = p10 (D - 1) * 10 := by
          obtain ⟨m, hm⟩ : ∃ m, D = m + 1 := ⟨D - 1, by have := h.D0; omega⟩
          rw [hm]; rfl
        rw [h7, Int.mul_comm (p10 nd), Int.mul_assoc, Int.mul_comm (p10 nd) (p10 L), ← Int.mul_assoc, Int.mul_assoc (p10 (D - 1)) 10, Int.mul_comm 10 (p10 L), ← Int.mul_assoc, Int.mul_assoc _ 10, Int.mul_comm 10, ← Int.mul_assoc]
      rw [h5, h6, ← h4]
      exact Int.mul_le_mul_of_nonneg_right h3 (by decide)
/-- The left shift's first loop: digit by digit from the last. -/
def lsE (K : Int) (dl : Nat) (g : Nat → Int) : Nat → Int → (Nat → Int) → Bool → Int × (Nat → Int) × Bool
  | 0, n, d, t => (n, d, t)
  | r + 1, n, d, t => lsE K dl g r (((g r - 48) * K + n) / 10) (if r + dl < 800 then dupd d (r + dl) (((g r - 48) * K + n) % 10 + 48) else d) (if r + dl < 800 then t else (t || ((g r - 48) * K + n) % 10 != 0))
/-- Its second loop: the digits that came anew. -/
def lsF : Nat → Int → (Nat → Int) → Bool → (Nat → Int) × Bool
  | 0, n, d, t => (d, t)
  | w + 1, n, d, t => if 0 < n then lsF w (n / 10) (if w < 800 then dupd d w (n % 10 + 48) else d) (if w < 800 then t else (t || n % 10 != 0)) else (d, t)
theorem lsE_val {K : Int} {dl : Nat} {g : Nat → Int} (hK : 0 < K) (nd : Nat) (hg : ∀ i, i < nd → Dig (g i)) : ∀ (r : Nat) (n : Int) (d : Nat → Int) (t : Bool) (T S : Int), r ≤ nd → 0 < T → 0 ≤ n → n < K → n * T ≤ S * K → S * K < (n + 1) * T →
    0 ≤ (lsE K dl g r n d t).1 ∧ (lsE K dl g r n d t).1 < K ∧ (lsE K dl g r n d t).1 * (T * p10 r) ≤ (pv (val g nd) r * T + S) * K ∧ (pv (val g nd) r * T + S) * K < ((lsE K dl g r n d t).1 + 1) * (T * p10 r)
  | 0, n, d, t, T, S, hr, hT, h0, h1, h2, h3 => by
    show 0 ≤ n ∧ n < K ∧ n * (T * 1) ≤ (0 * T + S) * K ∧ (0 * T + S) * K < (n + 1) * (T * 1)
    rw [Int.mul_one, Int.zero_mul, Int.zero_add]
    exact ⟨h0, h1, h2, h3⟩
  | r + 1, n, d, t, T, S, hr, hT, h0, h1, h2, h3 => by
    obtain ⟨a, b⟩ := hg r (by omega)
    have hv : val g nd r = g r - 48 := val_in (by omega)
    obtain ⟨q, hq⟩ : ∃ q, q = g r - 48 := ⟨_, rfl⟩
    have q0 : 0 ≤ q := by omega
    have q9 : q ≤ 9 := by omega
    have hqK0 : 0 ≤ q * K := Int.mul_nonneg q0 (Int.le_of_lt hK)
    have hqK9 : q * K ≤ 9 * K := Int.mul_le_mul_of_nonneg_right q9 (Int.le_of_lt hK)
    have e1 : (q * T + S) * K = q * K * T + S * K := by rw [Int.add_mul, Int.mul_assoc, Int.mul_comm T, ← Int.mul_assoc]
    obtain ⟨m, hm⟩ : ∃ m, m = q * K + n := ⟨_, rfl⟩
    have e2 : m * T = q * K * T + n * T := by rw [hm, Int.add_mul]
    have e3 : (m + 1) * T = q * K * T + (n + 1) * T := by rw [hm, Int.add_mul, Int.add_mul, Int.add_mul]; omega
    have e4 : m / 10 * (T * 10) = m / 10 * 10 * T := by rw [Int.mul_comm T 10, ← Int.mul_assoc]
    have e5 : (m / 10 + 1) * (T * 10) = (m / 10 + 1) * 10 * T := by rw [Int.mul_comm T 10, ← Int.mul_assoc]
    have e6 : m / 10 * 10 * T ≤ m * T := Int.mul_le_mul_of_nonneg_right (by omega) (Int.le_of_lt hT)
    have e7 : (m + 1) * T ≤ (m / 10 + 1) * 10 * T := Int.mul_le_mul_of_nonneg_right (by omega) (Int.le_of_lt hT)
    have ih := lsE_val (dl := dl) hK nd hg r (m / 10) (if r + dl < 800 then dupd d (r + dl) (m % 10 + 48) else d) (if r + dl < 800 then t else (t || m % 10 != 0)) (T * 10) (q * T + S) (by omega) (by omega) (by omega) (by omega) (by omega) (by omega)
    have e8 : lsE K dl g (r + 1) n d t = lsE K dl g r (m / 10) (if r + dl < 800 then dupd d (r + dl) (m % 10 + 48) else d) (if r + dl < 800 then t else (t || m % 10 != 0)) := by rw [hm, hq]; rfl
    have e9 : pv (val g nd) (r + 1) * T + S = pv (val g nd) r * (T * 10) + (q * T + S) := by
      show (pv (val g nd) r * 10 + val g nd r) * T + S = _
      rw [hv, ← hq, Int.add_mul, Int.mul_comm T 10, ← Int.mul_assoc, Int.add_assoc]
    have e10 : T * p10 (r + 1) = T * 10 * p10 r := by
      show T * (p10 r * 10) = _
      rw [Int.mul_assoc, Int.mul_comm 10]
    rw [e8, e9, e10]
    exact ih
theorem lsE_dig {K : Int} {dl : Nat} {g : Nat → Int} (N : Nat) : ∀ (r : Nat) (n : Int) (d : Nat → Int) (t : Bool), (∀ i, r + dl ≤ i → i < N → i < 800 → Dig (d i)) → ∀ i, dl ≤ i → i < N → i < 800 → Dig ((lsE K dl g r n d t).2.1 i)
  | 0, n, d, t, h => fun i h1 h2 h3 => h i (by omega) h2 h3
  | r + 1, n, d, t, h => by
    refine lsE_dig (K := K) (dl := dl) (g := g) N r (((g r - 48) * K + n) / 10) (if r + dl < 800 then dupd d (r + dl) (((g r - 48) * K + n) % 10 + 48) else d) (if r + dl < 800 then t else (t || ((g r - 48) * K + n) % 10 != 0)) ?_
    intro i h1 h2 h3
    split
    · by_cases e : i = r + dl
      · rw [e, upd_at]
        generalize (g r - 48) * K + n = m
        exact ⟨by omega, by omega⟩
      · rw [upd_ne _ _ _ e]
        exact h i (by omega) h2 h3
    · exact h i (by omega) h2 h3
theorem lsE_first {K : Int} {g : Nat → Int} (hK : 0 < K) (nd : Nat) (hg : ∀ i, i < nd → Dig (g i)) : ∀ (r : Nat) (n : Int) (d : Nat → Int) (t : Bool), r + 1 ≤ nd → 0 ≤ n → ∃ m : Int, (g 0 - 48) * K ≤ m ∧ (lsE K 0 g (r + 1) n d t).2.1 0 = m % 10 + 48 ∧ (lsE K 0 g (r + 1) n d t).1 = m / 10
  | 0, n, d, t, hr, h0 => by
    refine ⟨(g 0 - 48) * K + n, by omega, ?_, rfl⟩
    show (if 0 + 0 < 800 then dupd d (0 + 0) (((g 0 - 48) * K + n) % 10 + 48) else d) 0 = _
    rw [if_pos (by decide)]
    exact upd_at _ _ _
  | r + 1, n, d, t, hr, h0 => by
    have h1 := (hg (r + 1) (by omega)).1
    have h2 : 0 ≤ (g (r + 1) - 48) * K := Int.mul_nonneg (by omega) (Int.le_of_lt hK)
    exact lsE_first hK nd hg r (((g (r + 1) - 48) * K + n) / 10) _ _ (by omega) (by omega)
theorem lsF_ok (M : Nat) (hM : M ≤ 800) : ∀ (w : Nat) (n : Int) (d : Nat → Int) (t : Bool), 0 ≤ n → n < p10 w → p10 w ≤ n * 10 ∨ w = 0 → (∀ i, w ≤ i → i < M → Dig (d i)) → (w = 0 → 49 ≤ d 0) →
    (∀ i, i < M → Dig ((lsF w n d t).1 i)) ∧ 49 ≤ (lsF w n d t).1 0
  | 0, n, d, t, h0, h1, h2, h3, h4 => ⟨fun i hi => h3 i (by omega) hi, h4 rfl⟩
  | w + 1, n, d, t, h0, h1, h2, h3, h4 => by
    have hp := p10_pos w
    have h5 : p10 w * 10 ≤ n * 10 := by
      rcases h2 with h | h
      · exact h
      · omega
    have h6 : n < p10 w * 10 := h1
    have h7 : 0 < n := by omega
    have h8 : lsF (w + 1) n d t = lsF w (n / 10) (if w < 800 then dupd d w (n % 10 + 48) else d) (if w < 800 then t else (t || n % 10 != 0)) := by
      show (if 0 < n then _ else _) = _
      rw [if_pos h7]
    rw [h8]
    refine lsF_ok M hM w (n / 10) _ _ (by omega) (by omega) ?_ ?_ ?_
    · cases w with
      | zero => exact Or.inr rfl
      | succ w =>
        left
        have : p10 (w + 1) = p10 w * 10 := rfl
        omega
    · intro i h9 h10
      rw [if_pos (show w < 800 by omega)]
      by_cases e : i = w
      · rw [e, upd_at]
        exact ⟨by omega, by omega⟩
      · rw [upd_ne _ _ _ e]
        exact h3 i (by omega) h10
    · intro hw
      subst hw
      rw [if_pos (by decide), upd_at]
      have : p10 0 = 1 := rfl
      omega
/-- A decimal shifted to the left. -/
def lsX (K : Int) (dl : Nat) (x : Dec) : Dec :=
  trimX ⟨(lsF dl (lsE K dl x.d x.nd 0 x.d x.tr).1 (lsE K dl x.d x.nd 0 x.d x.tr).2.1 (lsE K dl x.d x.nd 0 x.d x.tr).2.2).1, if 800 ≤ x.nd + dl then 800 else x.nd + dl, x.dp + dl, x.ng, (lsF dl (lsE K dl x.d x.nd 0 x.d x.tr).1 (lsE K dl x.d x.nd 0 x.d x.tr).2.1 (lsE K dl x.d x.nd 0 x.d x.tr).2.2).2⟩
theorem lsX_mid {k D L : Nat} {K : Int} {c : Nat → Int} (h : Cheat k K D L c) {x : Dec} (hx : DecI x) :
    0 ≤ (lsE K (newD x.d c x.nd D L) x.d x.nd 0 x.d x.tr).1 ∧ (lsE K (newD x.d c x.nd D L) x.d x.nd 0 x.d x.tr).1 < p10 (newD x.d c x.nd D L) ∧ (p10 (newD x.d c x.nd D L) ≤ (lsE K (newD x.d c x.nd D L) x.d x.nd 0 x.d x.tr).1 * 10 ∨ newD x.d c x.nd D L = 0) := by
  have hK : 0 < K := Int.lt_of_lt_of_le (p10_pos _) h.lo
  obtain ⟨b1, b2⟩ := new_bounds h hx.dig hx.hd hx.nd0
  generalize newD x.d c x.nd D L = dl at *
  obtain ⟨v1, v2, v3, v4⟩ := lsE_val (dl := dl) hK x.nd hx.dig x.nd 0 x.d x.tr 1 0 (Nat.le_refl _) (by decide) (by decide) hK (by omega) (by omega)
  generalize (lsE K dl x.d x.nd 0 x.d x.tr).1 = Q at *
  rw [Int.one_mul, Int.mul_one, Int.add_zero] at v3 v4
  generalize pv (val x.d x.nd) x.nd * K = NK at *
  have hp := p10_pos x.nd
  refine ⟨v1, mul_lt hp ?_, ?_⟩
  · rw [Int.mul_comm (p10 dl)]
    omega
  · cases dl with
    | zero => exact Or.inr rfl
    | succ m =>
      left
      have h1 : p10 (m + 1) = p10 m * 10 := rfl
      have h2 : p10 x.nd * p10 (m + 1) = p10 m * p10 x.nd * 10 := by rw [h1, ← Int.mul_assoc, Int.mul_comm (p10 x.nd)]
      rw [h2] at b2
      have h3 : p10 m * p10 x.nd < (Q + 1) * p10 x.nd := by omega
      have h4 := mul_lt hp h3
      omega
theorem lsX_ok {k D L : Nat} {K : Int} {c : Nat → Int} (h : Cheat k K D L c) {x : Dec} (hx : DecI x) :
    DecI (lsX K (newD x.d c x.nd D L) x) ∧ (lsX K (newD x.d c x.nd D L) x).dp = x.dp + newD x.d c x.nd D L ∧ (newD x.d c x.nd D L = 0 → 48 + (x.d 0 - 48) * K ≤ (lsX K (newD x.d c x.nd D L) x).d 0) := by
  have hK : 0 < K := Int.lt_of_lt_of_le (p10_pos _) h.lo
  obtain ⟨q0, q1, q2⟩ := lsX_mid h hx
  generalize newD x.d c x.nd D L = dl at *
  have hE := lsE_dig (K := K) (dl := dl) (g := x.d) (x.nd + dl) x.nd 0 x.d x.tr (fun i h1 h2 h3 => absurd h2 (by omega))
  have hF1 : ∃ m : Nat, x.nd = m + 1 := ⟨x.nd - 1, by have := hx.nd0; omega⟩
  obtain ⟨m, hm⟩ := hF1
  have hfst : dl = 0 → 48 + (x.d 0 - 48) * K ≤ (lsE K dl x.d x.nd 0 x.d x.tr).2.1 0 := by
    intro e
    subst e
    obtain ⟨y, y1, y2, y3⟩ := lsE_first hK x.nd hx.dig m 0 x.d x.tr (by omega) (by decide)
    rw [← hm] at y2 y3
    rw [y2]
    have h3 : (lsE K 0 x.d x.nd 0 x.d x.tr).1 < 1 := q1
    rw [y3] at h3 q0
    have h5 : 49 ≤ x.d 0 := hx.hd
    have h6 : 0 ≤ (x.d 0 - 48) * K := Int.mul_nonneg (by omega) (Int.le_of_lt hK)
    omega
  have h49 : dl = 0 → 49 ≤ (lsE K dl x.d x.nd 0 x.d x.tr).2.1 0 := fun e => by
    have h1 := hfst e
    have h2 : 1 * K ≤ (x.d 0 - 48) * K := Int.mul_le_mul_of_nonneg_right (by have := hx.hd; omega) (Int.le_of_lt hK)
    omega
  have hM : (if 800 ≤ x.nd + dl then 800 else x.nd + dl) ≤ 800 := by split <;> omega
  obtain ⟨f1, f2⟩ := lsF_ok (if 800 ≤ x.nd + dl then 800 else x.nd + dl) hM dl (lsE K dl x.d x.nd 0 x.d x.tr).1 (lsE K dl x.d x.nd 0 x.d x.tr).2.1 (lsE K dl x.d x.nd 0 x.d x.tr).2.2 q0 q1 q2 (fun i h1 h2 => hE i h1 (by split at h2 <;> omega) (by omega)) h49
  have hT := trimX_ok (x := ⟨(lsF dl (lsE K dl x.d x.nd 0 x.d x.tr).1 (lsE K dl x.d x.nd 0 x.d x.tr).2.1 (lsE K dl x.d x.nd 0 x.d x.tr).2.2).1, if 800 ≤ x.nd + dl then 800 else x.nd + dl, x.dp + dl, x.ng, (lsF dl (lsE K dl x.d x.nd 0 x.d x.tr).1 (lsE K dl x.d x.nd 0 x.d x.tr).2.1 (lsE K dl x.d x.nd 0 x.d x.tr).2.2).2⟩)
    ⟨by show 0 < (if 800 ≤ x.nd + dl then 800 else x.nd + dl); split <;> omega, hM, f1, f2⟩
  refine ⟨hT.1, hT.2, fun e => ?_⟩
  have h1 := hfst e
  subst e
  exact h1
/-- The right shift's first loop: enough digits to be shifted. -/
def rsA (K : Int) (g : Nat → Int) : Nat → Nat → Int → Nat × Int
  | 0, r, n => (r, n)
  | f + 1, r, n => if n < K then rsA K g f (r + 1) (n * 10 + g r) else (r, n)
theorem rsA_ok {K : Int} {g : Nat → Int} (hg : Digs g) : ∀ (f r : Nat) (n : Int), 1 ≤ n → n < 10 * K → K ≤ n * p10 f → K ≤ (rsA K g f r n).2 ∧ (rsA K g f r n).2 < 10 * K ∧ r ≤ (rsA K g f r n).1 ∧ (rsA K g f r n).1 ≤ r + f
  | 0, r, n, h1, h2, h3 => by
    have h4 : n * p10 0 = n := Int.mul_one n
    exact ⟨by show K ≤ n; omega, h2, Nat.le_refl _, Nat.le_refl _⟩
  | f + 1, r, n, h1, h2, h3 => by
    unfold rsA
    split
    · have a := (hg r).1
      have b := (hg r).2
      have h4 : n * p10 (f + 1) = n * 10 * p10 f := by
        show n * (p10 f * 10) = _
        rw [Int.mul_assoc, Int.mul_comm 10]
      have h5 : n * 10 * p10 f ≤ (n * 10 + g r) * p10 f := Int.mul_le_mul_of_nonneg_right (by omega) (Int.le_of_lt (p10_pos f))
      obtain ⟨i1, i2, i3, i4⟩ := rsA_ok (K := K) hg f (r + 1) (n * 10 + g r) (by omega) (by omega) (by omega)
      exact ⟨i1, i2, by omega, by omega⟩
    · exact ⟨by show K ≤ n; omega, h2, Nat.le_refl _, Nat.le_add_right _ _⟩
/-- Its second loop: a digit read, a digit written. -/
def rsC (K : Int) (g : Nat → Int) : Nat → Nat → Nat → Int → (Nat → Int) → Nat × Int × (Nat → Int)
  | 0, r, w, n, d => (w, n, d)
  | j + 1, r, w, n, d => rsC K g j (r + 1) (w + 1) ((n % K) * 10 + g r) (dupd d w (n / K + 48))
theorem rsC_ok {K : Int} (hK : 0 < K) {g : Nat → Int} (hg : Digs g) : ∀ (j r w : Nat) (n : Int) (d : Nat → Int), 0 ≤ n → n < 10 * K → (∀ i, i < w → Dig (d i)) → (w = 0 → K ≤ n) → (0 < w → 49 ≤ d 0) →
    0 ≤ (rsC K g j r w n d).2.1 ∧ (rsC K g j r w n d).2.1 < 10 * K ∧ (rsC K g j r w n d).1 = w + j ∧ (∀ i, i < w + j → Dig ((rsC K g j r w n d).2.2 i)) ∧ (w + j = 0 → (rsC K g j r w n d).2.1 = n) ∧ (0 < w + j → 49 ≤ (rsC K g j r w n d).2.2 0)
  | 0, r, w, n, d, h0, h1, h2, h3, h4 => ⟨h0, h1, rfl, h2, fun _ => rfl, h4⟩
  | j + 1, r, w, n, d, h0, h1, h2, h3, h4 => by
    have a := (hg r).1
    have b := (hg r).2
    have c := Int.emod_nonneg n (Int.ne_of_gt hK)
    have e := Int.emod_lt_of_pos n hK
    have q0 : 0 ≤ n / K := Int.ediv_nonneg h0 (Int.le_of_lt hK)
    have q9 : n / K < 10 := Int.ediv_lt_of_lt_mul hK h1
    have ih := rsC_ok hK hg j (r + 1) (w + 1) (n % K * 10 + g r) (dupd d w (n / K + 48)) (by omega) (by omega) (fun i hi => by
      by_cases e : i = w
      · rw [e, upd_at]
        exact ⟨by omega, by omega⟩
      · rw [upd_ne _ _ _ e]
        exact h2 i (by omega)) (by omega) (fun _ => by
      by_cases e : 0 = w
      · rw [← e, upd_at]
        have h5 : 1 ≤ n / K := by
          have := h3 e.symm
          exact (Int.le_ediv_iff_mul_le hK).2 (by omega)
        omega
      · rw [upd_ne _ _ _ e]
        exact h4 (by omega))
    obtain ⟨i1, i2, i3, i4, i5, i6⟩ := ih
    refine ⟨i1, i2, by rw [show w + (j + 1) = w + 1 + j from by omega]; exact i3, fun i hi => i4 i (by omega), fun h => by omega, fun _ => i6 (by omega)⟩
/-- Its third loop: the digits behind. -/
def rsD (K : Int) : Nat → Nat → Int → (Nat → Int) → Bool → Nat × (Nat → Int) × Bool
  | 0, w, n, d, t => (w, d, t)
  | f + 1, w, n, d, t => if 0 < n then (if w < 800 then rsD K f (w + 1) ((n % K) * 10) (dupd d w (n / K + 48)) t else rsD K f w ((n % K) * 10) d (t || decide (0 < n / K))) else (w, d, t)
/-- So many rounds are enough. -/
def Left (K : Int) : Nat → Int → Prop
  | 0, n => n = 0
  | f + 1, n => ∃ c, n * p2 f = c * K
theorem left_step {K : Int} (hK : 0 < K) {f : Nat} {n : Int} (h0 : 0 ≤ n) (h : Left K (f + 1) n) : Left K f (n % K * 10) := by
  obtain ⟨c, hc⟩ := h
  have h1 : n % K = n - K * (n / K) := Int.emod_def n K
  cases f with
  | zero =>
    show n % K * 10 = 0
    have h2 : n = c * K := by rw [← hc]; exact (Int.mul_one n).symm
    have h3 : n % K = 0 := by rw [h2]; exact Int.mul_emod_left c K
    rw [h3]
    rfl
  | succ f =>
    refine ⟨5 * c - n / K * (p2 f * 10), ?_⟩
    rw [h1]
    have h2 : n * (p2 f * 2) = c * K := hc
    have h3 : (n - K * (n / K)) * 10 * p2 f = n * (p2 f * 2) * 5 - K * (n / K) * (p2 f * 10) := by
      rw [Int.sub_mul, Int.sub_mul]
      have e1 : n * 10 * p2 f = n * (p2 f * 2) * 5 := by
        rw [Int.mul_assoc n (p2 f * 2) 5, Int.mul_assoc (p2 f) 2 5, Int.mul_comm (p2 f), ← Int.mul_assoc]
        rfl
      have e2 : K * (n / K) * 10 * p2 f = K * (n / K) * (p2 f * 10) := by rw [Int.mul_assoc (K * (n / K)), Int.mul_comm 10]
      rw [e1, e2]
    rw [h3, h2, Int.sub_mul]
    have e3 : c * K * 5 = 5 * c * K := by rw [Int.mul_comm (c * K), Int.mul_assoc]
    have e4 : n / K * (p2 f * 10) * K = K * (n / K) * (p2 f * 10) := by rw [Int.mul_comm K, Int.mul_assoc, Int.mul_comm (p2 f * 10), ← Int.mul_assoc]
    rw [e3, e4]
theorem rsD_ok {K : Int} (hK : 0 < K) : ∀ (f w : Nat) (n : Int) (d : Nat → Int) (t : Bool), 0 ≤ n → n < 10 * K → w ≤ 800 → (∀ i, i < w → Dig (d i)) → (w = 0 → K ≤ n ∧ 0 < f) → (0 < w → 49 ≤ d 0) →
    0 < (rsD K f w n d t).1 ∧ (rsD K f w n d t).1 ≤ 800 ∧ (∀ i, i < (rsD K f w n d t).1 → Dig ((rsD K f w n d t).2.1 i)) ∧ 49 ≤ (rsD K f w n d t).2.1 0
  | 0, w, n, d, t, h0, h1, h2, h3, h4, h5 => by
    have : 0 < w := by
      rcases Nat.eq_zero_or_pos w with h | h
      · have := (h4 h).2; omega
      · exact h
    exact ⟨this, h2, h3, h5 this⟩
  | f + 1, w, n, d, t, h0, h1, h2, h3, h4, h5 => by
    have c := Int.emod_nonneg n (Int.ne_of_gt hK)
    have e := Int.emod_lt_of_pos n hK
    have q0 : 0 ≤ n / K := Int.ediv_nonneg h0 (Int.le_of_lt hK)
    have q9 : n / K < 10 := Int.ediv_lt_of_lt_mul hK h1
    unfold rsD
    split
    · split
      · refine rsD_ok hK f (w + 1) (n % K * 10) (dupd d w (n / K + 48)) t (by omega) (by omega) (by omega) (fun i hi => ?_) (by omega) (fun _ => ?_)
        · by_cases e : i = w
          · rw [e, upd_at]
            exact ⟨by omega, by omega⟩
          · rw [upd_ne _ _ _ e]
            exact h3 i (by omega)
        · by_cases e : 0 = w
          · rw [← e, upd_at]
            have h5 : 1 ≤ n / K := by
              have := (h4 e.symm).1
              exact (Int.le_ediv_iff_mul_le hK).2 (by omega)
            omega
          · rw [upd_ne _ _ _ e]
            exact h5 (by omega)
      · exact rsD_ok hK f w (n % K * 10) d _ (by omega) (by omega) h2 h3 (by omega) h5
    · have : 0 < w := by
        rcases Nat.eq_zero_or_pos w with h | h
        · have := (h4 h).1; omega
        · exact h
      exact ⟨this, h2, h3, h5 this⟩
/-- A decimal shifted to the right. -/
def rsP (K : Int) (x : Dec) : Nat × Int := rsA K (val x.d x.nd) 20 0 0
def rsQ (K : Int) (x : Dec) : Nat × Int × (Nat → Int) := rsC K (val x.d x.nd) (x.nd - (rsP K x).1) (rsP K x).1 0 (rsP K x).2 x.d
def rsR (k : Nat) (K : Int) (x : Dec) : Nat × (Nat → Int) × Bool := rsD K (k + 1) (rsQ K x).1 (rsQ K x).2.1 (rsQ K x).2.2 x.tr
def rsX (k : Nat) (K : Int) (x : Dec) : Dec := trimX ⟨(rsR k K x).2.1, (rsR k K x).1, x.dp - ((rsP K x).1 - 1), x.ng, (rsR k K x).2.2⟩
theorem p10_19 : p10 19 = 10000000000000000000 := by decide
theorem rsP_ok {K : Int} (hK1 : 2 ≤ K) (hK2 : K ≤ 10000000000000000000) {x : Dec} (hx : DecI x) : K ≤ (rsP K x).2 ∧ (rsP K x).2 < 10 * K ∧ 1 ≤ (rsP K x).1 ∧ (rsP K x).1 ≤ 20 := by
  have hD := val_digs hx.dig
  have h0 : val x.d x.nd 0 = x.d 0 - 48 := val_in hx.nd0
  have h1 := hx.hd
  have h2 := (hx.dig 0 hx.nd0).2
  have e : rsP K x = rsA K (val x.d x.nd) 19 1 (x.d 0 - 48) := by
    unfold rsP
    rw [rsA, if_pos (by omega), h0]
    show rsA K _ 19 1 (0 * 10 + (x.d 0 - 48)) = _
    rw [show (0 : Int) * 10 + (x.d 0 - 48) = x.d 0 - 48 from by omega]
  rw [e]
  obtain ⟨a, b, c, d⟩ := rsA_ok (K := K) hD 19 1 (x.d 0 - 48) (by omega) (by omega) (by rw [p10_19]; omega)
  exact ⟨a, b, c, by omega⟩
theorem rsP_two {K : Int} (hK1 : 16 ≤ K) (hK2 : K ≤ 10000000000000000000) {x : Dec} (hx : DecI x) : 2 ≤ (rsP K x).1 := by
  have hD := val_digs hx.dig
  have h0 : val x.d x.nd 0 = x.d 0 - 48 := val_in hx.nd0
  have h1 := hx.hd
  have h2 := (hx.dig 0 hx.nd0).2
  have a := (hD 1).1
  have b := (hD 1).2
  have e : rsP K x = rsA K (val x.d x.nd) 18 2 ((x.d 0 - 48) * 10 + val x.d x.nd 1) := by
    unfold rsP
    rw [rsA, if_pos (by omega), h0, rsA, if_pos (by omega)]
    show rsA K _ 18 2 ((0 * 10 + (x.d 0 - 48)) * 10 + val x.d x.nd 1) = _
    rw [show (0 : Int) * 10 + (x.d 0 - 48) = x.d 0 - 48 from by omega]
  rw [e]
  exact (rsA_ok (K := K) hD 18 2 ((x.d 0 - 48) * 10 + val x.d x.nd 1) (by omega) (by omega) (by
    have h3 : p10 19 = p10 18 * 10 := rfl
    rw [p10_19] at h3
    have h4 : 10 * p10 18 ≤ ((x.d 0 - 48) * 10 + val x.d x.nd 1) * p10 18 := Int.mul_le_mul_of_nonneg_right (by omega) (Int.le_of_lt (p10_pos _))
    omega)).2.2.1
theorem rsP_one {K : Int} (hK1 : 2 ≤ K) (hK2 : K ≤ 10000000000000000000) {x : Dec} (hx : DecI x) (h : (rsP K x).1 = 1) : (rsP K x).2 = x.d 0 - 48 := by
  have hD := val_digs hx.dig
  have h0 : val x.d x.nd 0 = x.d 0 - 48 := val_in hx.nd0
  have h1 := hx.hd
  have h2 := (hx.dig 0 hx.nd0).2
  have a := (hD 1).1
  have b := (hD 1).2
  have e : rsP K x = rsA K (val x.d x.nd) 19 1 (x.d 0 - 48) := by
    unfold rsP
    rw [rsA, if_pos (by omega), h0]
    show rsA K _ 19 1 (0 * 10 + (x.d 0 - 48)) = _
    rw [show (0 : Int) * 10 + (x.d 0 - 48) = x.d 0 - 48 from by omega]
  rw [e] at h ⊢
  by_cases hlt : x.d 0 - 48 < K
  · have e2 : rsA K (val x.d x.nd) 19 1 (x.d 0 - 48) = rsA K (val x.d x.nd) 18 2 ((x.d 0 - 48) * 10 + val x.d x.nd 1) := by
      rw [rsA, if_pos hlt]
    rw [e2] at h
    have h3 : p10 19 = p10 18 * 10 := rfl
    rw [p10_19] at h3
    have h4 : 10 * p10 18 ≤ ((x.d 0 - 48) * 10 + val x.d x.nd 1) * p10 18 := Int.mul_le_mul_of_nonneg_right (by omega) (Int.le_of_lt (p10_pos _))
    have := (rsA_ok (K := K) hD 18 2 ((x.d 0 - 48) * 10 + val x.d x.nd 1) (by omega) (by omega) (by omega)).2.2.1
    omega
  · rw [rsA, if_neg hlt]
theorem rsC_head {K : Int} {g : Nat → Int} : ∀ (j r w : Nat) (n : Int) (d : Nat → Int), 0 < w → (rsC K g j r w n d).2.2 0 = d 0
  | 0, r, w, n, d, h => rfl
  | j + 1, r, w, n, d, h => by
    show (rsC K g j (r + 1) (w + 1) _ _).2.2 0 = _
    rw [rsC_head j (r + 1) (w + 1) _ _ (by omega), upd_ne _ _ _ (by omega)]
theorem rsD_head {K : Int} : ∀ (f w : Nat) (n : Int) (d : Nat → Int) (t : Bool), 0 < w → (rsD K f w n d t).2.1 0 = d 0
  | 0, w, n, d, t, h => rfl
  | f + 1, w, n, d, t, h => by
    unfold rsD
    split
    · split
      · rw [rsD_head f (w + 1) _ _ _ (by omega), upd_ne _ _ _ (by omega)]
      · exact rsD_head f w _ _ _ h
    · rfl
theorem rsX_ok {k : Nat} {K : Int} (hK1 : 2 ≤ K) (hK2 : K ≤ 10000000000000000000) {x : Dec} (hx : DecI x) : DecI (rsX k K x) ∧ (rsX k K x).dp = x.dp - ((rsP K x).1 - 1) ∧ (rsX k K x).d 0 = (rsP K x).2 / K + 48 := by
  obtain ⟨a1, a2, a3, a4⟩ := rsP_ok hK1 hK2 hx
  have hK : 0 < K := by omega
  have hD := val_digs hx.dig
  obtain ⟨c1, c2, c3, c4, c5, c6⟩ := rsC_ok hK hD (x.nd - (rsP K x).1) (rsP K x).1 0 (rsP K x).2 x.d (by omega) a2 (fun i hi => absurd hi (by omega)) (fun _ => a1) (fun h => absurd h (by omega))
  have hQ1 : (rsQ K x).1 = x.nd - (rsP K x).1 := by
    unfold rsQ
    rw [c3]
    omega
  have hd800 := hx.nd1
  obtain ⟨d1, d2, d3, d4⟩ := rsD_ok hK (k + 1) (rsQ K x).1 (rsQ K x).2.1 (rsQ K x).2.2 x.tr c1 c2 (by omega) (fun i hi => c4 i (by omega)) (fun h => ⟨by
    have e : (rsQ K x).2.1 = (rsP K x).2 := c5 (by omega)
    rw [e]; exact a1, by omega⟩) (fun h => c6 (by omega))
  have hT := trimX_ok (x := ⟨(rsR k K x).2.1, (rsR k K x).1, x.dp - ((rsP K x).1 - 1), x.ng, (rsR k K x).2.2⟩) ⟨d1, d2, d3, d4⟩
  refine ⟨hT.1, hT.2, ?_⟩
  show (rsD K (k + 1) (rsQ K x).1 (rsQ K x).2.1 (rsQ K x).2.2 x.tr).2.1 0 = _
  have q0 : 0 < (rsP K x).2 := by omega
  by_cases h : x.nd - (rsP K x).1 = 0
  · have h1 : (rsQ K x).1 = 0 := by omega
    have h2 : (rsQ K x).2.1 = (rsP K x).2 := c5 (by omega)
    rw [h1, h2, rsD, if_pos q0, if_pos (by decide), rsD_head _ _ _ _ _ (by omega)]
    exact upd_at _ _ _
  · rw [rsD_head _ _ _ _ _ (by omega)]
    obtain ⟨j, hj⟩ : ∃ j, x.nd - (rsP K x).1 = j + 1 := ⟨x.nd - (rsP K x).1 - 1, by omega⟩
    unfold rsQ
    rw [hj]
    show (rsC K _ j _ (0 + 1) _ (dupd x.d 0 ((rsP K x).2 / K + 48))).2.2 0 = _
    rw [rsC_head _ _ _ _ _ (by omega)]
    exact upd_at _ _ _
theorem left_start {K : Int} (k : Nat) (h : K = p2 k) (n : Int) : Left K (k + 1) n := ⟨n, by rw [h]⟩
/-- The shift that the code takes at a point's place. -/
def tabN (z : Int) : Nat := if 9 ≤ z then 27 else [1, 3, 6, 9, 13, 16, 19, 23, 26].getD z.toNat 0
theorem tab_cases (z : Int) (h : 0 ≤ z) : (z = 0 ∧ tabN z = 1) ∨ (z = 1 ∧ tabN z = 3) ∨ (2 ≤ z ∧ (tabN z = 6 ∨ tabN z = 9 ∨ tabN z = 13 ∨ tabN z = 16 ∨ tabN z = 19 ∨ tabN z = 23 ∨ tabN z = 26 ∨ tabN z = 27)) := by
  by_cases h9 : 9 ≤ z
  · have e : tabN z = 27 := if_pos h9
    right; right
    exact ⟨by omega, by simp [e]⟩
  · have e : tabN z = [1, 3, 6, 9, 13, 16, 19, 23, 26].getD z.toNat 0 := if_neg h9
    have h8 : z = 0 ∨ z = 1 ∨ z = 2 ∨ z = 3 ∨ z = 4 ∨ z = 5 ∨ z = 6 ∨ z = 7 ∨ z = 8 := by omega
    rcases h8 with h | h | h | h | h | h | h | h | h <;> (subst h; decide)
theorem tab_le (z : Int) (h : 0 ≤ z) : 1 ≤ tabN z ∧ tabN z ≤ 27 := by
  rcases tab_cases z h with ⟨_, e⟩ | ⟨_, e⟩ | ⟨_, e | e | e | e | e | e | e | e⟩ <;> (rw [e]; omega)
theorem p2_60 : p2 60 = 1152921504606846976 := by decide
theorem p2_small {n : Nat} (h1 : 1 ≤ n) (h2 : n ≤ 60) : 2 ≤ p2 n ∧ p2 n ≤ 10000000000000000000 := by
  have a := p2_le h1
  have b := p2_le h2
  rw [p2_60] at b
  have c : p2 1 = 2 := rfl
  omega
/-- floatBits' state: the decimal and the exponent. -/
structure FB where
  x : Dec
  e : Int
def stepR (y : FB) : Option FB := if 0 < y.x.dp then some ⟨rsX (tabN y.x.dp) (p2 (tabN y.x.dp)) y.x, y.e + tabN y.x.dp⟩ else none
def muR (y : FB) : Nat := (2 * y.x.dp + (if 56 ≤ y.x.d 0 then 1 else 0)).toNat
structure FRI (y : FB) : Prop where
  x : DecI y.x
  lo : -340 ≤ y.x.dp
  hi : y.x.dp ≤ 310
  e0 : 0 ≤ y.e
  e1 : y.e + 27 * (muR y : Int) ≤ 17000
theorem stepR_keep (y z : FB) (h : FRI y) (hs : stepR y = some z) : FRI z ∧ muR z < muR y := by
  unfold stepR at hs
  split at hs
  · rename_i hp
    simp only [Option.some.injEq] at hs
    obtain ⟨t1, t2⟩ := tab_le y.x.dp (by omega)
    obtain ⟨k1, k2⟩ := p2_small t1 (show tabN y.x.dp ≤ 60 by omega)
    obtain ⟨a, b, c⟩ := rsX_ok (k := tabN y.x.dp) k1 k2 h.x
    obtain ⟨r1, r2, r3, r4⟩ := rsP_ok k1 k2 h.x
    have hz : z.x = rsX (tabN y.x.dp) (p2 (tabN y.x.dp)) y.x := by rw [← hs]
    have hze : z.e = y.e + tabN y.x.dp := by rw [← hs]
    rw [← hz] at a b c
    have hmu : muR z < muR y := by
      unfold muR
      have hc2 : (if 56 ≤ z.x.d 0 then (1 : Int) else 0) ≤ 1 := by split <;> omega
      have hc3 : (0 : Int) ≤ (if 56 ≤ y.x.d 0 then (1 : Int) else 0) := by split <;> omega
      by_cases h1 : (rsP (p2 (tabN y.x.dp)) y.x).1 = 1
      · -- one digit was enough: the shift is by 3 and the digit was 8 or 9
        have h3 : tabN y.x.dp = 3 := by
          rcases tab_cases y.x.dp (by omega) with ⟨e, _⟩ | ⟨_, e⟩ | ⟨_, e⟩
          · omega
          · exact e
          · have h6 : 4 ≤ tabN y.x.dp := by rcases e with e | e | e | e | e | e | e | e <;> (rw [e]; omega)
            have h7 := p2_le h6
            have h8 : p2 4 = 16 := rfl
            have := rsP_two (by omega) k2 h.x
            omega
        have h9 := rsP_one k1 k2 h.x h1
        rw [h3] at r1 r2 c h9
        have h10 : p2 3 = 8 := rfl
        rw [h10] at r1 r2 c h9
        rw [h9] at r1 c
        have h11 := (h.x.dig 0 h.x.nd0).2
        have h12 : (if 56 ≤ y.x.d 0 then (1 : Int) else 0) = 1 := if_pos (by omega)
        have h13 : (if 56 ≤ z.x.d 0 then (1 : Int) else 0) = 0 := if_neg (by omega)
        rw [h12, h13]
        omega
      · omega
    have he : z.e ≤ y.e + 27 := by omega
    have h1 := h.e1
    have h2 := h.lo
    have h3 := h.hi
    have h4 := h.e0
    refine ⟨⟨a, by omega, by omega, by omega, by omega⟩, hmu⟩
  · cases hs
theorem stepR_start (x : Dec) (h : DecI x) (h1 : -330 ≤ x.dp) (h2 : x.dp ≤ 310) : FRI ⟨x, 0⟩ := by
  refine ⟨h, by show -340 ≤ x.dp; omega, h2, Int.le_refl _, ?_⟩
  unfold muR
  show (0 : Int) + 27 * _ ≤ 17000
  have hc2 : (if 56 ≤ x.d 0 then (1 : Int) else 0) ≤ 1 := by split <;> omega
  dsimp only
  omega
/-- The cheat sheet's rows that floatBits comes to. -/
structure Sheet (cD cL : Nat → Nat) (cc : Nat → Nat → Int) (ks : List Nat) : Prop where
  row : ∀ k, k ∈ ks → Cheat k (p2 k) (cD k) (cL k) (cc k)
def lsN (cD cL : Nat → Nat) (cc : Nat → Nat → Int) (k : Nat) (x : Dec) : Dec := lsX (p2 k) (newD x.d (cc k) x.nd (cD k) (cL k)) x
def ks12 : List Nat := [1, 3, 6, 9, 13, 16, 19, 23, 24, 26, 27, 53]
def stepL (cD cL : Nat → Nat) (cc : Nat → Nat → Int) (y : FB) : Option FB := if y.x.dp < 0 ∨ (y.x.dp = 0 ∧ y.x.d 0 < 53) then some ⟨lsN cD cL cc (tabN (-y.x.dp)) y.x, y.e - tabN (-y.x.dp)⟩ else none
def muL (y : FB) : Nat := (10 * -y.x.dp + (57 - y.x.d 0)).toNat
structure FLI (y : FB) : Prop where
  x : DecI y.x
  lo : -340 ≤ y.x.dp
  hi : y.x.dp ≤ 310
  e0 : y.e ≤ 17000
  e1 : -95000 ≤ y.e - 27 * (muL y : Int)
theorem newD_le (d c : Nat → Int) (nd D L : Nat) : newD d c nd D L ≤ D ∧ D ≤ newD d c nd D L + 1 := by
  unfold newD
  split <;> omega
theorem stepL_keep {cD cL : Nat → Nat} {cc : Nat → Nat → Int} (hS : Sheet cD cL cc ks12) (h1D : cD 1 = 1) (h3D : cD 3 = 1) (hD : ∀ k, k ∈ ks12 → k ≤ 27 → 4 ≤ k → 2 ≤ cD k) (hD9 : ∀ k, k ∈ ks12 → k ≤ 27 → cD k ≤ 9) (y z : FB) (h : FLI y) (hs : stepL cD cL cc y = some z) : FLI z ∧ muL z < muL y := by
  unfold stepL at hs
  split at hs
  · rename_i hp
    simp only [Option.some.injEq] at hs
    have hp0 : y.x.dp ≤ 0 := by omega
    obtain ⟨t1, t2⟩ := tab_le (-y.x.dp) (by omega)
    have hmem : tabN (-y.x.dp) ∈ ks12 := by
      rcases tab_cases (-y.x.dp) (by omega) with ⟨_, e⟩ | ⟨_, e⟩ | ⟨_, e | e | e | e | e | e | e | e⟩ <;> (rw [e]; decide)
    obtain ⟨a, b, c⟩ := lsX_ok (hS.row _ hmem) h.x
    have h9 := hD9 _ hmem t2
    obtain ⟨n1, n2⟩ := newD_le y.x.d (cc (tabN (-y.x.dp))) y.x.nd (cD (tabN (-y.x.dp))) (cL (tabN (-y.x.dp)))
    have hz : z.x = lsN cD cL cc (tabN (-y.x.dp)) y.x := by rw [← hs]
    have hze : z.e = y.e - tabN (-y.x.dp) := by rw [← hs]
    unfold lsN at hz
    rw [← hz] at a b c
    have hd0 := h.x.hd
    have hd9 := (h.x.dig 0 h.x.nd0).2
    have hz0 := a.hd
    have hz9 := (a.dig 0 a.nd0).2
    have hgrow : newD y.x.d (cc (tabN (-y.x.dp))) y.x.nd (cD (tabN (-y.x.dp))) (cL (tabN (-y.x.dp))) = 0 → y.x.d 0 < z.x.d 0 := by
      intro e
      have h1 := c e
      obtain ⟨k1, k2⟩ := p2_small t1 (show tabN (-y.x.dp) ≤ 60 by omega)
      have h2 : (y.x.d 0 - 48) * 2 ≤ (y.x.d 0 - 48) * p2 (tabN (-y.x.dp)) := Int.mul_le_mul_of_nonneg_left k1 (by omega)
      omega
    have hmu : muL z < muL y := by
      unfold muL
      rcases tab_cases (-y.x.dp) (by omega) with ⟨e1, e⟩ | ⟨e1, e⟩ | ⟨e1, e⟩
      · rw [e] at b n1 n2 hgrow
        rw [h1D] at n1 n2 hgrow b
        generalize newD y.x.d (cc 1) y.x.nd 1 (cL 1) = dl at *
        by_cases h0 : dl = 0
        · have := hgrow h0
          omega
        · omega
      · rw [e] at b n1 n2 hgrow
        rw [h3D] at n1 n2 hgrow b
        generalize newD y.x.d (cc 3) y.x.nd 1 (cL 3) = dl at *
        by_cases h0 : dl = 0
        · have := hgrow h0
          omega
        · omega
      · have h4 : 4 ≤ tabN (-y.x.dp) := by rcases e with e | e | e | e | e | e | e | e <;> (rw [e]; omega)
        have h5 := hD _ hmem t2 h4
        omega
    have h1 := h.e1
    have h2 := h.lo
    have h3 := h.hi
    have h4 := h.e0
    exact ⟨⟨a, by omega, by omega, by omega, by omega⟩, hmu⟩
  · cases hs
theorem stepL_start (y : FB) (h : FRI y) (hp : y.x.dp ≤ 0) : FLI y := by
  have h1 := h.e1
  have h2 := h.lo
  have h3 := h.hi
  have h4 := h.e0
  have hd0 := h.x.hd
  have hd9 := (h.x.dig 0 h.x.nd0).2
  refine ⟨h.x, h2, h3, by omega, ?_⟩
  unfold muL
  omega
/-- A shift to the right by any number of places. -/
def shR : Nat → Nat → Dec → Dec
  | 0, n, x => rsX n (p2 n) x
  | f + 1, n, x => if 60 < n then shR f (n - 60) (rsX 60 (p2 60) x) else rsX n (p2 n) x
theorem shR_ok : ∀ (f n : Nat) (x : Dec), 1 ≤ n → n ≤ 60 * f + 60 → DecI x → DecI (shR f n x) ∧ x.dp - 19 * (f + 1) ≤ (shR f n x).dp ∧ (shR f n x).dp ≤ x.dp
  | 0, n, x, h1, h2, hx => by
    obtain ⟨k1, k2⟩ := p2_small h1 (by omega)
    obtain ⟨a, b, c⟩ := rsX_ok (k := n) k1 k2 hx
    obtain ⟨r1, r2, r3, r4⟩ := rsP_ok k1 k2 hx
    exact ⟨a, by show _ ≤ (rsX n (p2 n) x).dp; omega, by show (rsX n (p2 n) x).dp ≤ _; omega⟩
  | f + 1, n, x, h1, h2, hx => by
    unfold shR
    split
    · obtain ⟨k1, k2⟩ := p2_small (n := 60) (by omega) (by omega)
      obtain ⟨a, b, c⟩ := rsX_ok (k := 60) k1 k2 hx
      obtain ⟨r1, r2, r3, r4⟩ := rsP_ok k1 k2 hx
      obtain ⟨i1, i2, i3⟩ := shR_ok f (n - 60) (rsX 60 (p2 60) x) (by omega) (by omega) a
      exact ⟨i1, by omega, by omega⟩
    · obtain ⟨k1, k2⟩ := p2_small h1 (by omega)
      obtain ⟨a, b, c⟩ := rsX_ok (k := n) k1 k2 hx
      obtain ⟨r1, r2, r3, r4⟩ := rsP_ok k1 k2 hx
      exact ⟨a, by omega, by omega⟩
end Go.Proofs.YtnggkkdcddpjlaaGreatDoor
namespace Go.Proofs.YtnggkkdcddpjlaaGreatDoor
open Go.RowKit
set_option maxRecDepth 100000
set_option linter.unusedVariables false
set_option linter.unusedSimpArgs false
/-- The decimal lies in block b. -/
structure DecAt (w : World) (b : Nat) (x : Dec) : Prop where
  dg : ∀ i, i < 800 → w.cell? ⟨b, i, none⟩ = some (.int .u8 (x.d i))
  nd : w.cell? ⟨b, 800, none⟩ = some (.int .i64 x.nd)
  dp : w.cell? ⟨b, 801, none⟩ = some (.int .i64 x.dp)
  ng : w.cell? ⟨b, 802, none⟩ = some (.bool x.ng)
  tr : w.cell? ⟨b, 803, none⟩ = some (.bool x.tr)
  fr : ∀ i, w.frozen? ⟨b, i, none⟩ = false
theorem DecAt.drewN {w : World} {b : Nat} {x : Dec} (h : DecAt w b x) (n : Nat) : DecAt (w.drewN n) b x := ⟨h.dg, h.nd, h.dp, h.ng, h.tr, h.fr⟩
theorem other {w : World} {b i j : Nat} {v : Value} {u : Option Value} (hij : i ≠ j) (h : w.cell? ⟨b, j, none⟩ = u) : (w.setCell ⟨b, i, none⟩ v).cell? ⟨b, j, none⟩ = u := by
  rw [World.cell?_setCell_other _ _ _ _ (by intro e; injection e with _ e2 _; exact hij e2)]
  exact h
theorem DecAt.setd {w : World} {b : Nat} {x : Dec} (h : DecAt w b x) (i : Nat) (hi : i < 800) (v : Int) : DecAt (w.setCell ⟨b, i, none⟩ (.int .u8 v)) b ⟨dupd x.d i v, x.nd, x.dp, x.ng, x.tr⟩ := by
  refine ⟨fun j hj => ?_, other (by omega) h.nd, other (by omega) h.dp, other (by omega) h.ng, other (by omega) h.tr, fun j => by rw [World.frozen?_setCell]; exact h.fr j⟩
  by_cases e : j = i
  · subst e
    rw [World.cell?_setCell_same _ _ _ (h.dg j hj)]
    show _ = some (Value.int .u8 (dupd x.d j v j))
    rw [upd_at]
  · show _ = some (Value.int .u8 (dupd x.d i v j))
    rw [upd_ne _ _ _ e]
    exact other (Ne.symm e) (h.dg j hj)
theorem DecAt.setnd {w : World} {b : Nat} {x : Dec} (h : DecAt w b x) (n : Nat) : DecAt (w.setCell ⟨b, 800, none⟩ (.int .i64 n)) b ⟨x.d, n, x.dp, x.ng, x.tr⟩ :=
  ⟨fun j hj => other (by omega) (h.dg j hj), World.cell?_setCell_same _ _ _ h.nd, other (by omega) h.dp, other (by omega) h.ng, other (by omega) h.tr, fun j => by rw [World.frozen?_setCell]; exact h.fr j⟩
theorem DecAt.setdp {w : World} {b : Nat} {x : Dec} (h : DecAt w b x) (n : Int) : DecAt (w.setCell ⟨b, 801, none⟩ (.int .i64 n)) b ⟨x.d, x.nd, n, x.ng, x.tr⟩ :=
  ⟨fun j hj => other (by omega) (h.dg j hj), other (by omega) h.nd, World.cell?_setCell_same _ _ _ h.dp, other (by omega) h.ng, other (by omega) h.tr, fun j => by rw [World.frozen?_setCell]; exact h.fr j⟩
theorem DecAt.setng {w : World} {b : Nat} {x : Dec} (h : DecAt w b x) (n : Bool) : DecAt (w.setCell ⟨b, 802, none⟩ (.bool n)) b ⟨x.d, x.nd, x.dp, n, x.tr⟩ :=
  ⟨fun j hj => other (by omega) (h.dg j hj), other (by omega) h.nd, other (by omega) h.dp, World.cell?_setCell_same _ _ _ h.ng, other (by omega) h.tr, fun j => by rw [World.frozen?_setCell]; exact h.fr j⟩
theorem DecAt.settr {w : World} {b : Nat} {x : Dec} (h : DecAt w b x) (n : Bool) : DecAt (w.setCell ⟨b, 803, none⟩ (.bool n)) b ⟨x.d, x.nd, x.dp, x.ng, n⟩ :=
  ⟨fun j hj => other (by omega) (h.dg j hj), other (by omega) h.nd, other (by omega) h.dp, other (by omega) h.ng, World.cell?_setCell_same _ _ _ h.tr, fun j => by rw [World.frozen?_setCell]; exact h.fr j⟩
theorem DecAt.congr {w : World} {b : Nat} {x y : Dec} (h : DecAt w b x) (e : x = y) : DecAt w b y := e ▸ h
/-- What a call does to a decimal: nothing below B, and it turns into x. -/
def Turned (B b : Nat) (w : World) (x : Dec) (e : Ending) (w' : World) : Prop := e = .returned (.tuple #[]) ∧ DecAt w' b x ∧ Below B w w'
theorem below_set {B : Nat} {a w : World} (h : Below B a w) {b o : Nat} (hb : B ≤ b) (u : Value) : Below B a (w.setCell ⟨b, o, none⟩ u) := h.setCell (p := ⟨b, o, none⟩) hb u
theorem below_dn {B : Nat} {a w : World} (h : Below B a w) (n : Nat) : Below B a (w.drewN n) := ⟨h.os, h.tape, h.output, h.size, h.block⟩
set_option maxHeartbeats 1000000 in
theorem trim_run (x : Dec) (hx : x.nd ≤ 800) (B b : Nat) (hB : B ≤ b) (w : World) (h : DecAt w b x) : Calls Tryz.prog 231 #[.pointer (some ⟨b, 0, none⟩)] w (Turned B b w (trimX x)) := by
  obtain ⟨d, nd, dp, ng, tr⟩ := x
  obtain ⟨N, hN⟩ : ∃ N, N = trimN d nd := ⟨_, rfl⟩
  have HN := Lib.hid hN
  have hX : trimX ⟨d, nd, dp, ng, tr⟩ = ⟨d, N, if N = 0 then 0 else dp, ng, tr⟩ := by rw [hN]; rfl
  rw [hX]
  clear hX hN
  have H := Lib.hid h
  clear h
  obtain ⟨Q, hQ⟩ : ∃ Q, Q = Turned B b w ⟨d, N, if N = 0 then 0 else dp, ng, tr⟩ := ⟨_, rfl⟩
  rw [← hQ]
  have HQ := Lib.hid hQ
  clear hQ
  dsimp only at hx
  go_enter Tryz.func231, Tryz.ntmps231
  go_wp2
  go_loopg [19] nd (fun k p wr => k ≤ nd ∧ DecAt wr b ⟨d, k, dp, ng, tr⟩ ∧ Below B w wr ∧ N = trimN d k)
  case atStart => exact ⟨Nat.le_refl _, H.out, Below.refl _ _, HN.out⟩
  case round =>
    obtain ⟨h1, h2, h3, h4⟩ := hrel
    have H2 := Lib.hid h2
    have H3 := Lib.hid h3
    have H4 := Lib.hid h4
    clear h2 h3 h4
    have hnd := H2.out.nd
    have hdp := H2.out.dp
    have hf1 := H2.out.fr 800
    have hf2 := H2.out.fr 801
    dsimp only at hnd hdp
    cases gk with
    | zero =>
      have hd : decide ((0 : Int) < ((0 : Nat) : Int)) = false := by decide
      go_wp2_with fail
      go_quiet (fail)
      go_wp2
      go_end0
      rw [HQ.out]
      have h0 : N = 0 := H4.out
      refine ⟨rfl, ?_, below_set (below_dn H3.out nq) hB _⟩
      rw [h0]
      exact (H2.out.drewN nq).setdp 0
    | succ k =>
      have hc := H2.out.dg k (by omega)
      dsimp only at hc
      have hk1 : (k : Int) < 800 := by omega
      have hk0 : (0 : Int) ≤ k := by omega
      have hd : decide ((0 : Int) < ((k + 1 : Nat) : Int)) = true := by simp
      by_cases h48 : d k = 48
      · go_wp2_with fail
        go_quiet (fail)
        go_wp2
        go_roundg k
        case measure => omega
        case rel =>
          refine ⟨by omega, (H2.out.drewN nq).setnd k, below_set (below_dn H3.out nq) hB _, ?_⟩
          rw [H4.out, trimN, if_pos h48]
      · have h48b : (d k == 48) = false := by simpa using h48
        go_wp2_with fail
        go_quiet (fail)
        go_wp2
        go_end0
        rw [HQ.out]
        have h0 : N = k + 1 := by rw [H4.out, trimN, if_neg h48]
        refine ⟨rfl, ?_, below_dn H3.out nq⟩
        rw [h0]
        exact H2.out.drewN nq
end Go.Proofs.YtnggkkdcddpjlaaGreatDoor
