/- shortFloat[float32]: its digits round back. internal/strconv.parseFloat32 at a text that rounds back to a float: the answer is that float. -/
import Derived.Test.YtnggkkdcddpjlaaGreatDoorZ26
import Derived.Test.YtnggkkdcddpjlaaGreatDoorZ27
namespace Go.Proofs.YtnggkkdcddpjlaaGreatDoor
open Go.RowKit
set_option linter.unusedVariables false
set_option maxRecDepth 100000
theorem skew_in32 (k : Int) (h0 : -149 < k) (h1 : k ≤ 104) :
    ∃ t : Int, Rounds ((t : Rat) / scW (qSk k) k) 8388608 ∧ 4 * ((8388608 : Int) : Rat) - 1 ≤ 4 * ((t : Rat) / scW (qSk k) k) ∧ (t : Rat) ≤ 100000000000000000 ∧ 0 < t ∧
      (((sfTail ((18014398509481984 * 512 : Nat) : Int) (k - 40) (qSk k) ((18014397972611072 * 512 : Nat) : Int) ((18014399583223808 * 512 : Nat) : Int) 0).2 = qSk k ∧ t = (sfTail ((18014398509481984 * 512 : Nat) : Int) (k - 40) (qSk k) ((18014397972611072 * 512 : Nat) : Int) ((18014399583223808 * 512 : Nat) : Int) 0).1) ∨
       ((sfTail ((18014398509481984 * 512 : Nat) : Int) (k - 40) (qSk k) ((18014397972611072 * 512 : Nat) : Int) ((18014399583223808 * 512 : Nat) : Int) 0).2 = qSk k + 1 ∧ t = 10 * (sfTail ((18014398509481984 * 512 : Nat) : Int) (k - 40) (qSk k) ((18014397972611072 * 512 : Nat) : Int) ((18014399583223808 * 512 : Nat) : Int) 0).1)) := by
  obtain ⟨w1, w2, s1, _⟩ := sk_at k (by omega) (by omega)
  have s2 : -63 ≤ k - 40 + lpw (-qSk k) + 3 := by unfold lpw qSk; omega
  have s1 : k - 40 + lpw (-qSk k) + 3 ≤ -5 := by omega
  have hq : -345 ≤ qSk k ∧ qSk k ≤ 345 := by unfold qSk; omega
  have hW : scW (qSk k) k = (10 : Rat) ^ (-qSk k) * (2 : Rat) ^ k := rfl
  have hkz : (2 : Rat) ^ (k - 40) * 1099511627776 = (2 : Rat) ^ k := by
    have : (2 : Rat) ^ (40 : Int) = 1099511627776 := by decide +kernel
    rw [← this, ← Rat.zpow_add (by decide)]
    congr 1
    omega
  have c1 : ((18014397972611072 * 512 : Nat) : Rat) = 18014397972611072 * 512 := by rw [Rat.natCast_mul]; rfl
  have c2 : ((18014399583223808 * 512 : Nat) : Rat) = 18014399583223808 * 512 := by rw [Rat.natCast_mul]; rfl
  obtain ⟨W, hWW⟩ : ∃ W, W = scW (qSk k) k := ⟨_, rfl⟩
  have lo : ((18014397972611072 * 512 : Nat) : Rat) * (10 : Rat) ^ (-qSk k) * (2 : Rat) ^ (k - 40) = (8388608 - 1 / 4) * W := by
    rw [c1, hWW, hW, ← hkz]
    grind
  have hi : ((18014399583223808 * 512 : Nat) : Rat) * (10 : Rat) ^ (-qSk k) * (2 : Rat) ^ (k - 40) = (8388608 + 1 / 2) * W := by
    rw [c2, hWW, hW, ← hkz]
    grind
  rw [← hWW] at w1 w2 ⊢
  obtain ⟨t, ht, hh⟩ := sf_gen (k - 40) (qSk k) 0 18014398509481984 18014397972611072 18014399583223808 (by omega) (by omega) (by omega) (by omega) (by omega) (by omega) (by omega) (by omega) (by omega) s1 s2
    (by rw [lo, hi]; exact wide_in _ _ _ (by grind)) (by rw [hi]; grind) (by rw [hi]; grind)
  rw [lo, hi] at ht
  clear lo hi hkz hW c1 c2
  unfold InIv at ht
  rw [if_pos rfl, if_pos rfl] at ht
  have hw : W ≠ 0 := by grind
  have hW0 : 0 < W := by grind
  have e : (t : Rat) = (t : Rat) / W * W := (Rat.div_mul_cancel hw).symm
  obtain ⟨t1, t2⟩ := ht
  have l1 : (8388608 - 1 / 4 : Rat) ≤ (t : Rat) / W := by
    refine Rat.le_of_mul_le_mul_right ?_ hW0
    rw [← e]
    exact t1
  have l2 : (t : Rat) / W ≤ (8388608 + 1 / 2 : Rat) := by
    refine Rat.le_of_mul_le_mul_right ?_ hW0
    rw [← e]
    exact t2
  have eM : ((8388608 : Int) : Rat) = 8388608 := rfl
  refine ⟨t, ?_, ?_, by grind, ?_, hh⟩
  · unfold Rounds
    rw [if_pos (by decide), eM]
    constructor <;> grind
  · rw [eM]
    grind
  · have h3 : (0 : Rat) < (t : Rat) := by grind
    have : ((0 : Int) : Rat) < (t : Rat) := h3
    exact Rat.intCast_lt_intCast.1 this
/-- d*10^q rounds to the float M*2^k of 32 bits. -/
structure Back32 (M k d q : Int) : Prop where
  d0 : 0 < d
  d1 : d ≤ 100000000000000000
  r : Rounds ((d : Rat) * (10 : Rat) ^ q * (2 : Rat) ^ (-k)) M
  low : M = 8388608 → -149 < k → 4 * (M : Rat) - 1 ≤ 4 * ((d : Rat) * (10 : Rat) ^ q * (2 : Rat) ^ (-k))
theorem back_of32 (M k t q d q' : Int) (hr : Rounds ((t : Rat) / scW q k) M) (hl : M = 8388608 → -149 < k → 4 * (M : Rat) - 1 ≤ 4 * ((t : Rat) / scW q k)) (ht : (t : Rat) ≤ 100000000000000000) (h0 : 0 < t)
    (h : (q' = q ∧ t = d) ∨ (q' = q + 1 ∧ t = 10 * d)) : Back32 M k d q' := by
  rw [sc_inv] at hr hl
  have ht2 : t ≤ 100000000000000000 := Rat.intCast_le_intCast.1 (show (t : Rat) ≤ ((100000000000000000 : Int) : Rat) from ht)
  rcases h with ⟨rfl, rfl⟩ | ⟨rfl, rfl⟩
  · exact ⟨h0, ht2, hr, hl⟩
  · have e : ((10 * d : Int) : Rat) * (10 : Rat) ^ q = (d : Rat) * (10 : Rat) ^ (q + 1) := by
      rw [Rat.intCast_mul, Rat.zpow_add_one (by decide)]
      have : ((10 : Int) : Rat) = 10 := rfl
      rw [this]
      grind
    rw [e] at hr hl
    exact ⟨by omega, by omega, hr, hl⟩
/-- shortFloat[float32] answers d, q. -/
def Sh32 (m e d q : Int) : Prop := ∀ w, PowAt w → 8 ≤ w.heap.size → Calls Tryz.prog 202 #[.int .u64 m, .int .i64 e] w fun r w' => r = .returned (.tuple #[.int .u64 d, .int .i64 q]) ∧ Below w.heap.size w w'
theorem skew_in2_32 (k m mn mx : Int) (hm : m = 9223372036854775808) (hmn : mn = 9223371761976868864) (hmx : mx = 9223372586610589696) (h0 : -149 < k) (h1 : k ≤ 104) :
    ∃ t : Int, Rounds ((t : Rat) / scW (qSk k) k) 8388608 ∧ 4 * ((8388608 : Int) : Rat) - 1 ≤ 4 * ((t : Rat) / scW (qSk k) k) ∧ (t : Rat) ≤ 100000000000000000 ∧ 0 < t ∧
      (((sfTail m (k - 40) (qSk k) mn mx 0).2 = qSk k ∧ t = (sfTail m (k - 40) (qSk k) mn mx 0).1) ∨ ((sfTail m (k - 40) (qSk k) mn mx 0).2 = qSk k + 1 ∧ t = 10 * (sfTail m (k - 40) (qSk k) mn mx 0).1)) := by
  have h := skew_in32 k h0 h1
  have e1 : ((18014398509481984 * 512 : Nat) : Int) = m := by rw [hm]; decide +kernel
  have e2 : ((18014397972611072 * 512 : Nat) : Int) = mn := by rw [hmn]; decide +kernel
  have e3 : ((18014399583223808 * 512 : Nat) : Int) = mx := by rw [hmx]; decide +kernel
  rw [e1, e2, e3] at h
  exact h
theorem sh_norm32 (M : Nat) (k : Int) (hM0 : 8388608 ≤ M) (hM1 : M < 16777216) (h0 : -149 ≤ k) (h1 : k ≤ 104) : ∃ d q : Int, Back32 M k d q ∧ Sh32 ((M * 1099511627776 : Nat) : Int) (k - 40) d q := by
  have ha : bits BinOp.and IntKind.i64 (((M * 1099511627776 : Nat) : Int) / 1099511627776) 1 = (M : Int) % 2 := by
    rw [and_one_i _ (by omega) (by omega)]
    omega
  have hx : k - 40 + 40 = k := by omega
  have hz : (2 : Rat) ^ (40 : Int) = ((1073741824 * 1024 : Nat) : Rat) := by decide +kernel
  have e1 : ((2 * M * 1073741824 * 512 : Nat) : Int) = ((M * 1099511627776 : Nat) : Int) := by omega
  have e2 : (((2 * M - 1) * 1073741824 * 512 : Nat) : Int) = IntKind.u64.wrap (((M * 1099511627776 : Nat) : Int) - 549755813888) := by
    have c1 : ((1073741824 * 512 : Nat) : Int) = 549755813888 := by decide
    have c2 : ((2 * M - 1 : Nat) : Int) = 2 * (M : Int) - 1 := by omega
    have c3 : ((1099511627776 : Nat) : Int) = 1099511627776 := rfl
    rw [IntKind.wrap_u64, Nat.mul_assoc, Int.natCast_mul, c1, c2, Int.natCast_mul, c3]; omega
  have e3 : (((2 * M + 1) * 1073741824 * 512 : Nat) : Int) = IntKind.u64.wrap (((M * 1099511627776 : Nat) : Int) + 549755813888) := by
    have c1 : ((1073741824 * 512 : Nat) : Int) = 549755813888 := by decide
    have c2 : ((2 * M + 1 : Nat) : Int) = 2 * (M : Int) + 1 := by omega
    have c3 : ((1099511627776 : Nat) : Int) = 1099511627776 := rfl
    rw [IntKind.wrap_u64, Nat.mul_assoc, Int.natCast_mul, c1, c2, Int.natCast_mul, c3]; omega
  obtain ⟨w1, w2, s1, _⟩ := ten_at k (by omega) (by omega)
  have s2 : -63 ≤ k - 40 + lpw (-qOf k) + 3 := by unfold lpw qOf; omega
  by_cases hp : M = 8388608
  · by_cases hk : k = -149
    · obtain ⟨t, hr, ht, ht0, hh⟩ := sym_in M 1073741824 40 k (by omega) (by omega) hz (by omega) (by omega) (by omega) (by omega) (by omega) s2 ((M : Int) % 2) rfl
      rw [e1, e2, e3] at hh
      refine ⟨_, _, back_of32 M k t (qOf k) _ _ hr (fun _ h => by omega) ht ht0 hh, fun w hpw hw => ?_⟩
      have h := short32_b2 ((M * 1099511627776 : Nat) : Int) (k - 40) (by omega) (by omega) (by omega) (by omega) (by simp; omega) w hpw hw
      rw [hx, ha] at h
      exact h
    · obtain ⟨t, hr, hl, ht, ht0, hh⟩ := skew_in2_32 k ((M * 1099511627776 : Nat) : Int) (IntKind.u64.wrap (((M * 1099511627776 : Nat) : Int) - 274877906944)) (IntKind.u64.wrap (((M * 1099511627776 : Nat) : Int) + 549755813888)) (by omega) (by rw [IntKind.wrap_u64]; omega) (by rw [IntKind.wrap_u64]; omega) (by omega) h1
      have f4 : (8388608 : Int) = (M : Int) := by omega
      rw [f4] at hr hl
      refine ⟨_, _, back_of32 M k t (qSk k) _ _ hr (fun _ _ => hl) ht ht0 hh, fun w hpw hw => ?_⟩
      have h := short32_a ((M * 1099511627776 : Nat) : Int) (k - 40) (by omega) (by omega) (by omega) (by omega) (by simp; omega) w hpw hw
      have ha2 : (M : Int) % 2 = 0 := by omega
      rw [hx, ha, ha2] at h
      exact h
  · obtain ⟨t, hr, ht, ht0, hh⟩ := sym_in M 1073741824 40 k (by omega) (by omega) hz (by omega) (by omega) (by omega) (by omega) (by omega) s2 ((M : Int) % 2) rfl
    rw [e1, e2, e3] at hh
    refine ⟨_, _, back_of32 M k t (qOf k) _ _ hr (fun h _ => by omega) ht ht0 hh, fun w hpw hw => ?_⟩
    have h := short32_b ((M * 1099511627776 : Nat) : Int) (k - 40) (by omega) (by omega) (by omega) (by omega) (by simp; omega) w hpw hw
    rw [hx, ha] at h
    exact h
theorem sub_call32 (M : Nat) (m z' Q od : Int) (g0 : 0 ≤ m) (g1 : m < 18446744073709551616) (k1 : 41 ≤ z') (k2 : z' ≤ 63) (n : Nat) (hn : (n : Int) = z') (hQ : Q = (2 : Int) ^ (n - 1)) (ha : bits BinOp.and IntKind.i64 (wrap64 (m / 2 ^ n)) 1 = od) (w : World) (hpp : PowAt w) (hw : 8 ≤ w.heap.size) :
    Calls Tryz.prog 202 #[.int .u64 m, .int .i64 (-149 - z')] w fun r w' => r = .returned (.tuple #[.int .u64 (sfTail m (-149 - z') (qOf (-149)) (IntKind.u64.wrap (m - IntKind.u64.wrap Q)) (IntKind.u64.wrap (m + IntKind.u64.wrap Q)) od).1, .int .i64 (sfTail m (-149 - z') (qOf (-149)) (IntKind.u64.wrap (m - IntKind.u64.wrap Q)) (IntKind.u64.wrap (m + IntKind.u64.wrap Q)) od).2]) ∧ Below w.heap.size w w' := by
  have hx : (-149 : Int) - z' + (40 + (-189 - (-149 - z'))) = -149 := by omega
  have hn2 : ((40 : Int) + (-189 - (-149 - z'))).toNat = n := by omega
  have hcase : ∀ b, (m == 9223372036854775808) = b → Calls Tryz.prog 202 #[.int .u64 m, .int .i64 (-149 - z')] w fun r w' => r = .returned (.tuple #[.int .u64 (sfTail m (-149 - z') (qOf (-149)) (IntKind.u64.wrap (m - IntKind.u64.wrap Q)) (IntKind.u64.wrap (m + IntKind.u64.wrap Q)) od).1, .int .i64 (sfTail m (-149 - z') (qOf (-149)) (IntKind.u64.wrap (m - IntKind.u64.wrap Q)) (IntKind.u64.wrap (m + IntKind.u64.wrap Q)) od).2]) ∧ Below w.heap.size w w' := by
    intro b hb
    cases b with
    | false =>
      have h := short32_c m (-149 - z') g0 g1 (by omega) (by omega) hb w hpp hw
      rw [hn2, hx, ← hQ, ha] at h
      exact h
    | true =>
      have h := short32_c2 m (-149 - z') g0 g1 (by omega) (by omega) hb w hpp hw
      rw [hn2, hx, ← hQ, ha] at h
      exact h
  exact hcase _ rfl
set_option maxHeartbeats 1000000 in
theorem sh_sub32 (M z : Nat) (hM0 : 0 < M) (hz0 : 41 ≤ z) (hz1 : z ≤ 63) (hM1 : M < 2 ^ (64 - z)) : ∃ d q : Int, Back32 M (-149) d q ∧ Sh32 ((M * 2 ^ z : Nat) : Int) (-149 - z) d q := by
  obtain ⟨P, hP⟩ : ∃ P, P = 2 ^ (z - 10) := ⟨_, rfl⟩
  have hP0 : 0 < P := by rw [hP]; exact Nat.two_pow_pos _
  have hPz : P * 1024 = 2 ^ z := by
    have : (1024 : Nat) = 2 ^ 10 := by decide
    rw [hP, this, ← Nat.pow_add]
    congr 1
    omega
  have hPh : P * 512 = 2 ^ (z - 1) := by
    have : (512 : Nat) = 2 ^ 9 := by decide
    rw [hP, this, ← Nat.pow_add]
    congr 1
    omega
  have hMP : (M + 1) * (P * 1024) ≤ 18446744073709551616 := by
    rw [hPz]
    have h1 : (M + 1) * 2 ^ z ≤ 2 ^ (64 - z) * 2 ^ z := Nat.mul_le_mul_right _ hM1
    rw [← Nat.pow_add] at h1
    have : 64 - z + z = 64 := by omega
    rw [this] at h1
    have : (2 : Nat) ^ 64 = 18446744073709551616 := by decide
    omega
  have hM52 : M < 8388608 := by
    have h1 : 2 ^ (64 - z) ≤ 2 ^ 23 := Nat.pow_le_pow_right (by decide) (by omega)
    have : (2 : Nat) ^ 23 = 8388608 := by decide
    omega
  obtain ⟨R, hR⟩ : ∃ R, R = M * P := ⟨_, rfl⟩
  have r1 : (M + 1) * (P * 1024) = R * 1024 + P * 1024 := by rw [Nat.add_mul, hR, Nat.mul_assoc]; omega
  have r2 : (2 * M + 1) * P = 2 * R + P := by rw [Nat.add_mul, hR, Nat.mul_assoc]; omega
  have r3 : (2 * M - 1) * P + P = 2 * R := by
    have : (2 * M - 1) * P + P = (2 * M - 1 + 1) * P := (Nat.succ_mul _ _).symm
    have h : 2 * M - 1 + 1 = 2 * M := by omega
    rw [this, h, hR, Nat.mul_assoc]
  have r4 : 2 * M * P = 2 * R := by rw [hR, Nat.mul_assoc]
  have r5 : M * 2 ^ z = R * 1024 := by rw [← hPz, hR, Nat.mul_assoc]
  have hRP : P ≤ R := by rw [hR]; exact Nat.le_mul_of_pos_left P hM0
  have hzr : (2 : Rat) ^ ((z : Nat) : Int) = ((P * 1024 : Nat) : Rat) := by rw [hPz, cast_pow, Rat.zpow_natCast]; rfl
  have hl : lpw (-qOf (-149)) = 149 := by decide
  obtain ⟨t, hr, ht, ht0, hh⟩ := sym_in M P z (-149) hM0 hP0 hzr (by omega) (by omega) (by omega) (by omega) (by omega) (by omega) ((M : Int) % 2) rfl
  have e1 : ((2 * M * P * 512 : Nat) : Int) = ((M * 2 ^ z : Nat) : Int) := by rw [r4, r5]; omega
  have e2 : (((2 * M - 1) * P * 512 : Nat) : Int) = IntKind.u64.wrap (((M * 2 ^ z : Nat) : Int) - IntKind.u64.wrap ((P * 512 : Nat) : Int)) := by
    rw [IntKind.wrap_u64, IntKind.wrap_u64, r5]; omega
  have e3 : (((2 * M + 1) * P * 512 : Nat) : Int) = IntKind.u64.wrap (((M * 2 ^ z : Nat) : Int) + IntKind.u64.wrap ((P * 512 : Nat) : Int)) := by
    rw [IntKind.wrap_u64, IntKind.wrap_u64, r5, r2]; omega
  rw [e1, e2, e3] at hh
  have hz2 : (41 : Int) ≤ (z : Int) := Int.ofNat_le.2 hz0
  have hz3 : (z : Int) ≤ 63 := Int.ofNat_le.2 hz1
  have hM53 : (0 : Int) ≤ (M : Int) ∧ (M : Int) < 8388608 := ⟨Int.natCast_nonneg _, by exact Int.ofNat_lt.2 hM52⟩
  have g0 : (0 : Int) ≤ ((M * 2 ^ z : Nat) : Int) := Int.natCast_nonneg _
  have g1 : ((M * 2 ^ z : Nat) : Int) < 18446744073709551616 := by rw [r5]; omega
  have hpw : ((P * 512 : Nat) : Int) = (2 : Int) ^ (z - 1) := by rw [hPh, Int.natCast_pow]; rfl
  have hdv : ((M * 2 ^ z : Nat) : Int) / 2 ^ z = (M : Int) := by
    rw [Int.natCast_mul, Int.natCast_pow]
    exact Int.mul_ediv_cancel _ (Int.ne_of_gt (Int.pow_pos (by decide)))
  have ha : bits BinOp.and IntKind.i64 (wrap64 (((M * 2 ^ z : Nat) : Int) / 2 ^ z)) 1 = (M : Int) % 2 := by
    rw [hdv]
    clear hh hr e1 e2 e3 r1 r2 r3 r4 r5 hzr hMP hPz hPh hpw hdv g0 g1 hM0 hM1 hM52 hR
    have : wrap64 (M : Int) = M := by unfold wrap64; omega
    rw [this, and_one_i _ (by omega) (by omega)]
  exact ⟨_, _, back_of32 M (-149) t (qOf (-149)) _ _ hr (fun h _ => absurd hM53.2 (by rw [h]; decide)) ht ht0 hh, fun w hpp hw => sub_call32 M _ z _ _ g0 g1 hz2 hz3 z rfl hpw ha w hpp hw⟩
end Go.Proofs.YtnggkkdcddpjlaaGreatDoor
namespace Go.Proofs.YtnggkkdcddpjlaaGreatDoor
open Go.RowKit
set_option linter.unusedVariables false
set_option maxRecDepth 100000
/-- Y = V/2^k rounds to the mantissa M; X = V*2^e is what the reader scales to. -/
theorem parse_pos32 (X Y : Rat) (M k e : Int) (hM0 : 0 < M) (hM1 : M < 16777216) (hk : -149 ≤ k) (hn : 8388608 ≤ M ∨ k = -149) (he : e ≤ 149)
    (hXY : X = Y * (2 : Rat) ^ (k + e)) (hR : Rounds Y M) (hq : M = 8388608 → -149 < k → 4 * (M : Rat) - 1 ≤ 4 * Y)
    (hX : e = 149 ∨ 8388608 ≤ X) (hX2 : X ≤ 33554432 - 2) (hX3 : X ≠ 33554432 - 2) :
    (33554431 ≤ 2 * X → k = 1 - e ∧ X / 2 = Y) ∧ (¬ 33554431 ≤ 2 * X → k = -e ∧ X = Y) := by
  have lo := rounds_lo hR
  have hi := rounds_hi hR
  have m1 : (1 : Rat) ≤ (M : Rat) := by
    have : ((1 : Int) : Rat) ≤ (M : Rat) := Rat.intCast_le_intCast.2 (by omega)
    exact this
  have m2 : (M : Rat) ≤ 16777215 := by
    have : (M : Rat) ≤ ((16777215 : Int) : Rat) := Rat.intCast_le_intCast.2 (by omega)
    exact this
  have y0 : 0 ≤ Y := by grind
  have big : -149 < k → (33554432 : Rat) - 2 ≤ 4 * Y ∧ 33554431 ≤ 4 * Y := fun hk1 => by
    rcases (by omega : M = 8388608 ∨ 8388609 ≤ M) with h | h
    · have h2 := hq h hk1
      have : (M : Rat) = 8388608 := by rw [h]; rfl
      rw [this] at h2
      constructor <;> grind
    · have : ((8388609 : Int) : Rat) ≤ (M : Rat) := Rat.intCast_le_intCast.2 h
      have e1 : ((8388609 : Int) : Rat) = 8388609 := rfl
      rw [e1] at this
      constructor <;> grind
  have e0 : (2 : Rat) ^ (0 : Int) = 1 := by decide
  have e1 : (2 : Rat) ^ (1 : Int) = 2 := by decide
  have e2 : (2 : Rat) ^ (2 : Int) = 4 := by decide
  have em : (2 : Rat) ^ (-1 : Int) = 1 / 2 := by decide +kernel
  have mono : ∀ a b : Rat, a ≤ b → Y * a ≤ Y * b := fun a b h => Rat.mul_le_mul_of_nonneg_left h y0
  refine ⟨fun hc => ?_, fun hc => ?_⟩
  · have hj : k + e = 1 := by
      rcases (by omega : k + e = 1 ∨ 2 ≤ k + e ∨ k + e ≤ 0) with h | h | h
      · exact h
      · exfalso
        have h1 := mono _ _ (two_ge (k + e) 2 h)
        rw [e2, ← hXY] at h1
        have h2 := big (by omega)
        grind
      · exfalso
        have h1 := mono _ _ (two_ge 0 (k + e) h)
        rw [e0, ← hXY] at h1
        have h3 : (M : Rat) = 16777215 := by grind
        have h4 : (16777215 : Int) ≤ M := Rat.intCast_le_intCast.1 (show (16777215 : Rat) ≤ (M : Rat) by grind)
        have h5 : ¬ M % 2 = 0 := by omega
        unfold Rounds at hR
        rw [if_neg h5] at hR
        grind
    refine ⟨by omega, ?_⟩
    rw [hXY, hj, e1]
    grind
  · have hj : k + e = 0 := by
      rcases (by omega : k + e = 0 ∨ 1 ≤ k + e ∨ k + e ≤ -1) with h | h | h
      · exact h
      · exfalso
        have h1 := mono _ _ (two_ge (k + e) 1 h)
        rw [e1, ← hXY] at h1
        have h2 := big (by omega)
        grind
      · exfalso
        have h1 := mono _ _ (two_ge (-1) (k + e) h)
        rw [em, ← hXY] at h1
        rcases hX with hX | hX
        · omega
        · grind
    refine ⟨by omega, ?_⟩
    rw [hXY, hj, e0]
    grind
theorem pa_bounds32 (d : Nat) (p e : Int) (b : Nat) (hb0 : 1 ≤ b) (hd0 : 2 ^ (b - 1) ≤ d) (hd : d < 2 ^ b) (hp0 : -348 ≤ p) (hp1 : p ≤ 347) (he : e = min 149 (24 - b - lpw p)) :
    (e = 149 ∨ 8388608 ≤ (d : Rat) * (10 : Rat) ^ p * (2 : Rat) ^ e) ∧ (d : Rat) * (10 : Rat) ^ p * (2 : Rat) ^ e < 33554432 - 2 := by
  obtain ⟨l1, l2⟩ := lp_at p hp0 hp1
  have p2 := two_pos e
  have c2 : ((2 : Nat) : Rat) = 2 := rfl
  have d0 : (2 : Rat) ^ (((b : Int)) - 1) ≤ (d : Rat) := by
    have := Rat.natCast_le_natCast.2 hd0
    rw [cast_pow, c2, ← Rat.zpow_natCast] at this
    have e1 : (((b - 1 : Nat)) : Int) = (b : Int) - 1 := by omega
    rw [e1] at this
    exact this
  have d1 : (d : Rat) ≤ (2 : Rat) ^ (b : Int) := by
    have := Rat.natCast_le_natCast.2 (Nat.le_of_lt hd)
    rw [cast_pow, c2, ← Rat.zpow_natCast] at this
    exact this
  have t0 := two_pos ((b : Int) - 1)
  have t1 := two_pos (lpw p)
  have t2 := two_pos (b : Int)
  have tp : (0 : Rat) < (10 : Rat) ^ p := Rat.zpow_pos (by decide)
  refine ⟨?_, ?_⟩
  · rcases (by omega : e = 149 ∨ e = 24 - b - lpw p) with h | h
    · exact Or.inl h
    · right
      have a1 : (2 : Rat) ^ ((b : Int) - 1) * (2 : Rat) ^ (lpw p) ≤ (d : Rat) * (10 : Rat) ^ p :=
        Rat.le_trans (Rat.mul_le_mul_of_nonneg_left l1 (Rat.le_of_lt t0)) (Rat.mul_le_mul_of_nonneg_right d0 (Rat.le_of_lt tp))
      have a2 := Rat.mul_le_mul_of_nonneg_right a1 (Rat.le_of_lt p2)
      rw [← Rat.zpow_add (by decide), ← Rat.zpow_add (by decide)] at a2
      have e1 : (b : Int) - 1 + lpw p + e = 23 := by omega
      rw [e1] at a2
      have e52 : (2 : Rat) ^ (23 : Int) = 8388608 := by decide +kernel
      rw [e52] at a2
      exact a2
  · have a1 : (d : Rat) * (1048576 * (10 : Rat) ^ p) ≤ (2 : Rat) ^ (b : Int) * (1048576 * (10 : Rat) ^ p) := Rat.mul_le_mul_of_nonneg_right d1 (by grind)
    have a2 : (2 : Rat) ^ (b : Int) * (1048576 * (10 : Rat) ^ p) < (2 : Rat) ^ (b : Int) * (2097150 * (2 : Rat) ^ (lpw p)) := Rat.mul_lt_mul_of_pos_left l2 t2
    have a3 : (d : Rat) * (1048576 * (10 : Rat) ^ p) < (2 : Rat) ^ (b : Int) * (2097150 * (2 : Rat) ^ (lpw p)) := by grind
    have a4 := Rat.mul_lt_mul_of_pos_right a3 p2
    have e1 : (2 : Rat) ^ (b : Int) * (2097150 * (2 : Rat) ^ (lpw p)) * (2 : Rat) ^ e = 2097150 * ((2 : Rat) ^ (b : Int) * (2 : Rat) ^ (lpw p) * (2 : Rat) ^ e) := by grind
    rw [e1, ← Rat.zpow_add (by decide), ← Rat.zpow_add (by decide)] at a4
    have a5 := two_ge 24 ((b : Int) + lpw p + e) (by omega)
    have e53 : (2 : Rat) ^ (24 : Int) = 16777216 := by decide +kernel
    rw [e53] at a5
    have e4 : (d : Rat) * (1048576 * (10 : Rat) ^ p) * (2 : Rat) ^ e = 1048576 * ((d : Rat) * (10 : Rat) ^ p * (2 : Rat) ^ e) := by grind
    rw [e4] at a4
    grind
theorem pa_word32 (U : Int) (X Y : Rat) (M k e : Int) (hU : Unr U (4 * X)) (hU0 : 0 ≤ U) (hM0 : 0 < M) (hM1 : M < 16777216) (hk : -149 ≤ k) (hn : 8388608 ≤ M ∨ k = -149) (he : e ≤ 149)
    (hXY : X = Y * (2 : Rat) ^ (k + e)) (hR : Rounds Y M) (hq : M = 8388608 → -149 < k → 4 * (M : Rat) - 1 ≤ 4 * Y)
    (hX : e = 149 ∨ 8388608 ≤ X) (hX2 : X < 33554432 - 2) :
    (67108862 ≤ U → rnd (bits BinOp.or IntKind.u64 (U / 2) (bits BinOp.and IntKind.u64 U 1)) = M ∧ -(e - 1) = k) ∧
    (¬ 67108862 ≤ U → rnd (bits BinOp.or IntKind.u64 U (bits BinOp.and IntKind.u64 U 1)) = M ∧ -e = k) := by
  obtain ⟨p1, p2⟩ := parse_pos32 X Y M k e hM0 hM1 hk hn he hXY hR hq hX (Rat.le_of_lt hX2) (by grind)
  have hl := unr_lt hU 16777216
  have e53 : ((16777216 : Int) : Rat) = 16777216 := rfl
  have e54 : 2 * (16777216 : Rat) - 1 = 33554431 := by decide +kernel
  rw [e53, e54] at hl
  have e55 : (4 * 16777216 - 2 : Int) = 67108862 := by decide
  rw [e55] at hl
  have hU1 : U ≤ 2 * 67108864 := by
    refine (hU 67108864).1.2 ?_
    have : ((2 * 67108864 : Int) : Rat) = 4 * 33554432 := by decide +kernel
    rw [this]
    grind
  have ha : bits BinOp.and IntKind.u64 U 1 = U % 2 := and_one U hU0 (by omega)
  obtain ⟨u, rfl⟩ : ∃ u : Nat, U = u := ⟨U.toNat, by omega⟩
  have hc : ((u : Int) % 2) = ((u % 2 : Nat) : Int) := by omega
  have hh : ((u : Int) / 2) = ((u / 2 : Nat) : Int) := by omega
  rw [ha, hc, hh]
  refine ⟨fun h => ?_, fun h => ?_⟩
  · obtain ⟨k1, k2⟩ := p1 (hl.1 h)
    refine ⟨?_, by omega⟩
    rw [or_bit (u / 2) (u % 2) (by omega) (by omega)]
    have hv := unr_half hU
    rw [k2] at hv
    have e1 : (if (u : Int) % 2 = 0 then (u : Int) / 2 else (u : Int) / 2 / 2 * 2 + 1) = (if u % 2 = 0 then ((u / 2 : Nat) : Int) else ((u / 2 / 2 * 2 + 1 : Nat) : Int)) := by
      by_cases h0 : u % 2 = 0
      · rw [if_pos h0, if_pos (by omega)]; omega
      · rw [if_neg h0, if_neg (by omega)]; omega
    rw [e1] at hv
    have hr := rnd_to hv hR
    rw [rnd_eq _ (by split <;> omega) (by split <;> omega)]
    exact hr
  · obtain ⟨k1, k2⟩ := p2 (fun hc => h (hl.2 hc))
    refine ⟨?_, by omega⟩
    rw [or_bit u (u % 2) (by omega) (by omega)]
    have e1 : (if u % 2 = 0 then (u : Int) else ((u / 2 * 2 + 1 : Nat) : Int)) = (u : Int) := by
      split <;> omega
    rw [e1]
    rw [k2] at hU
    rw [rnd_eq _ hU0 (by omega)]
    exact rnd_to hU hR
set_option maxHeartbeats 1000000 in
/-- parseFloat32 answers the float to which the text rounds. -/
theorem pf32_word (d : Nat) (hd0 : 0 < d) (hd : d < 144115188075855872) (p : Int) (hp0 : -70 ≤ p) (hp1 : p ≤ 40) (ng : Bool) (M : Nat) (k : Int) (hM0 : 0 < M) (hM1 : M < 16777216) (hk : -149 ≤ k) (hn : 8388608 ≤ M ∨ k = -149)
    (hfin : (k + 149).toNat * 8388608 + M < FloatKind.f32.format.infRung) (hR : Rounds ((d : Rat) * (10 : Rat) ^ p * (2 : Rat) ^ (-k)) M) (hl : (M : Int) = 8388608 → -149 < k → 4 * (((M : Nat) : Int) : Rat) - 1 ≤ 4 * ((d : Rat) * (10 : Rat) ^ p * (2 : Rat) ^ (-k)))
    (w : World) (hp : PowAt w) (hw : 8 ≤ w.heap.size) :
    Calls Tryz.prog 245 #[.int .u64 d, .int .i64 p, .int .u32 (sgW 2147483648 ng)] w fun r w' => r = .returned (.tuple #[.float .f32 (FloatKind.f32.format.word ng ((k + 149).toNat * 8388608 + M)), erV false]) ∧ Below w.heap.size w w' := by
  obtain ⟨b, hb⟩ : ∃ b, b = Lib.bitLen d := ⟨_, rfl⟩
  obtain ⟨hb0, hb1, hb2⟩ := Lib.bitLenAux_bounds 64 d (by omega) (by omega)
  have hbe : Lib.bitLenAux 64 d = b := hb.symm
  rw [hbe] at hb0 hb1 hb2
  have hb57 : b ≤ 57 := by rw [hb]; exact Lib.bitLen_le d 57 (by omega) hd
  obtain ⟨e, he⟩ : ∃ e, e = min 149 (24 - (b : Int) - lpw p) := ⟨_, rfl⟩
  have hvl := half_least _ _ k (-149) (by omega) hk hR
  have hnf := not_far d b hb2 p (by omega) (by omega) (-149) hvl
  have hs : -63 ≤ e - (64 - (b : Int)) + lpw p + 3 := by omega
  have hU := pa_unr d p e b hd0 hb57 hb2 (by omega) (by omega) (by omega) hs
  obtain ⟨bx1, bx2⟩ := pa_bounds32 d p e b hb0 hb1 hb2 (by omega) (by omega) he
  obtain ⟨V, hV⟩ : ∃ V, V = (d : Rat) * (10 : Rat) ^ p := ⟨_, rfl⟩
  rw [← hV] at hU bx1 bx2 hR hl
  have hXY : V * (2 : Rat) ^ e = V * (2 : Rat) ^ (-k) * (2 : Rat) ^ (k + e) := by
    rw [Rat.mul_assoc, ← Rat.zpow_add (by decide)]
    congr 2
    omega
  have hwr : IntKind.u64.wrap ((d : Int) * 2 ^ (64 - b)) = ((d * 2 ^ (64 - b) : Nat) : Int) := by
    have h1 : d * 2 ^ (64 - b) < 2 ^ b * 2 ^ (64 - b) := Nat.mul_lt_mul_of_pos_right hb2 (Nat.two_pow_pos _)
    rw [← Nat.pow_add] at h1
    have h2 : b + (64 - b) = 64 := by omega
    have h3 : (2 : Nat) ^ 64 = 18446744073709551616 := by decide
    rw [h2, h3] at h1
    have h4 : (d : Int) * 2 ^ (64 - b) = ((d * 2 ^ (64 - b) : Nat) : Int) := by rw [Int.natCast_mul, Int.natCast_pow]; rfl
    rw [h4]
    generalize d * 2 ^ (64 - b) = x at h1
    rw [IntKind.wrap_u64]
    omega
  have hin := (scl_in (e - (64 - (b : Int))) p ((d * 2 ^ (64 - b) : Nat) : Int)).1
  obtain ⟨w1, w2⟩ := pa_word32 _ (V * (2 : Rat) ^ e) (V * (2 : Rat) ^ (-k)) M k e hU hin (by omega) (by omega) hk (by omega) (by omega) hXY hR hl bx1 bx2
  rw [← hwr] at w1 w2
  have hlp : lpw p = p * 108853 / 32768 := rfl
  have hpk := fun w => pack32_at ng M k hM0 hM1 hk hn hfin w
  have hsg : (0 : Int) ≤ (sgW 2147483648 ng : Nat) ∧ ((sgW 2147483648 ng : Nat) : Int) < 4294967296 := by
    unfold sgW
    cases ng <;> decide
  by_cases hc : 67108862 ≤ scl (e - (64 - (b : Int))) p (IntKind.u64.wrap ((d : Int) * 2 ^ (64 - b)))
  · obtain ⟨c1, c2⟩ := w1 hc
    refine pf32_hi d (by omega) p _ hp0 hp1 hsg.1 hsg.2 b (by omega) hb.symm (lpw p) e hlp he (by omega) _ _ hc ?_ w hp hw
    intro w
    have hMw : (M : Int) % 4294967296 = M := by omega
    rw [c1, c2, hMw]
    exact hpk w
  · obtain ⟨c1, c2⟩ := w2 hc
    refine pf32_lo d (by omega) p _ hp0 hp1 hsg.1 hsg.2 b (by omega) hb.symm (lpw p) e hlp he (by omega) _ _ hc ?_ w hp hw
    intro w
    have hMw : (M : Int) % 4294967296 = M := by omega
    rw [c1, c2, hMw]
    exact hpk w
end Go.Proofs.YtnggkkdcddpjlaaGreatDoor
