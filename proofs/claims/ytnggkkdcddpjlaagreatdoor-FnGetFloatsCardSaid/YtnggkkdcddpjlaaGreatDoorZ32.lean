/- internal/strconv.atof32: total; at a text that rounds to a float it is that float. strconv.ParseFloat at 32 bits. -/
import Derived.Test.YtnggkkdcddpjlaaGreatDoorZ31
import Derived.Test.YtnggkkdcddpjlaaGreatDoorZ25
namespace Go.Proofs.YtnggkkdcddpjlaaGreatDoor
open Go.RowKit Ieee
set_option maxRecDepth 100000
set_option linter.unusedVariables false
theorem sgn32_in (ng : Bool) : 0 ≤ sgn32 ng ∧ sgn32 ng < 4294967296 := by cases ng <;> decide
theorem or_lt32 (x y : Int) (v : Nat) (h : bits .or .u32 x y = v) : v < 4294967296 := by
  have := (or_in32 x y).2
  rw [h] at this
  omega
theorem int_lt32 (m : Int) : floatOfInt .f32 m < 4294967296 := by
  have e32 : 2 ^ FloatKind.f32.format.width = 4294967296 := by decide
  unfold floatOfInt FloatKind.nearest FloatKind.encode
  rw [← e32]
  exact FloatKind.f32.format.write_lt _
theorem neg_lt32 (x : Nat) (h : x < 4294967296) : Op.negFloat .f32 x < 4294967296 := by
  have e : FloatKind.f32.format.exponentBits + FloatKind.f32.format.fractionBits = 31 := by decide
  unfold Op.negFloat
  rw [e]
  have h2 : (4294967296 : Nat) = 2 ^ 32 := by decide
  rw [h2] at h ⊢
  exact Nat.xor_lt_two_pow h (by decide)
theorem sgn_lt32 (ng : Bool) (m : Int) : sgnInt .f32 ng m < 4294967296 := by
  unfold sgnInt
  split
  · exact neg_lt32 _ (int_lt32 m)
  · exact int_lt32 m
theorem ex_lt32 (tab : Nat → Nat) (x c c' : Nat) (e : Int) (r : Nat) (hx : x < 4294967296) (h : ExTold .f32 tab 10 17 c c' x e r) : r < 4294967296 := by
  have e32 : 2 ^ FloatKind.f32.format.width = 4294967296 := by decide
  rcases h with ⟨_, h⟩ | ⟨_, _, _, _, h⟩ | ⟨_, _, _, _, h⟩ | ⟨_, _, _, _, _, _, _, _, h⟩
  · rw [h]; exact hx
  · rw [← e32]; exact FloatKind.f32.format.mul_lt h
  · rw [← e32]; exact FloatKind.f32.format.div_lt h
  · rw [← e32]; exact FloatKind.f32.format.mul_lt h
theorem fp32_at (j : Nat) (hj : (j : Int) ≤ 10) : Num FloatKind.f32.format (fpTab32 j) false ((10 : Rat) ^ (j : Int)) := by
  rw [← ten_nat]
  exact num_of (fp32_num j (by omega))
/-- What special's answer is told as. -/
theorem narrow_of (f : Nat) (h : f = 0 ∨ f = 9218868437227405312 ∨ f = 18442240474082181120 ∨ f = 9221120237041090561) : ∃ o, Narrow f o ∧ ∀ y, o = some y → y < 4294967296 := by
  have key : ∀ s : Bool, floatToFloatBits .f64 (FloatKind.f64.format.word s FloatKind.f64.format.infRung) .f32 = some (FloatKind.f32.format.word s FloatKind.f32.format.infRung) := fun s => by
    unfold floatToFloatBits
    have e : FloatKind.f64.decode (FloatKind.f64.format.word s FloatKind.f64.format.infRung) = .infinity s := rd_inf .f64 fmt64 s
    rw [if_neg (by decide), e]
    rfl
  rcases h with h | h | h | h
  · refine ⟨some 0, ?_, fun y hy => by injection hy with hy; omega⟩
    obtain ⟨g, g1, g2, g3, g4⟩ := wid_nar 0 (by decide) (by unfold Num32; decide)
    have e0 : floatToFloatBits .f32 0 .f64 = some 0 := by decide +kernel
    rw [e0] at g3
    injection g3 with g3
    show floatToFloatBits .f64 f .f32 = some 0
    rw [h]
    rw [← g3] at g4
    exact g4
  · refine ⟨some (FloatKind.f32.format.word false FloatKind.f32.format.infRung), ?_, fun y hy => by injection hy with hy; rw [← hy]; decide⟩
    have := key false
    have e : FloatKind.f64.format.word false FloatKind.f64.format.infRung = f := by rw [h]; decide
    rw [e] at this
    exact this
  · refine ⟨some (FloatKind.f32.format.word true FloatKind.f32.format.infRung), ?_, fun y hy => by injection hy with hy; rw [← hy]; decide⟩
    have := key true
    have e : FloatKind.f64.format.word true FloatKind.f64.format.infRung = f := by rw [h]; decide
    rw [e] at this
    exact this
  · refine ⟨none, ?_, fun y hy => by cases hy⟩
    show ¬ Num64 f
    rw [h]
    unfold Num64
    decide
/-- internal/strconv.atof32: total; its answers hang on the text alone. -/
theorem atof32_any (s : ByteArray) (hs : (s.size : Int) ≤ 1000000) : ∃ (o : Option Nat) (n k : Nat), k ≤ 2 ∧ (∀ y, o = some y → y < 4294967296) ∧ ∀ w, PW32 w → Calls Tryz.prog 217 #[.string s] w (AtPost32 w o n k) := by
  have one : ∀ v, v < 4294967296 → ∀ y, some v = some y → y < 4294967296 := fun v hv y hy => by injection hy with hy; omega
  obtain ⟨f0, n0, ok0, hf0, hSp⟩ := special_any s hs
  cases ok0 with
  | true =>
    obtain ⟨o, ho, hy⟩ := narrow_of f0 hf0
    exact ⟨o, n0, 0, by omega, hy, fun w hw => at32_special s hs f0 n0 hSp o ho w hw⟩
  | false =>
    obtain ⟨⟨m, p, tr, n, ok⟩, ng, hx, hI, hRf⟩ := readFloat_any s hs
    have hRf := rf_run hRf
    obtain ⟨i1, i2, i3, i4, i5⟩ := hI
    dsimp only at i1 i2 i3 i4 i5 hRf
    cases ok with
    | false => exact ⟨some 0, n, 2, by omega, one 0 (by decide), fun w hw => at32_bad s hs f0 n0 hSp m p ng tr hx n hRf w hw⟩
    | true =>
      cases hx with
      | true =>
        obtain ⟨v, eh, hv, hH⟩ := atofHex_any32 m p ng tr i1 i2 i3 i4
        refine ⟨told32w v, n, if eh = true then 1 else 0, by split <;> omega, fun y hy => ?_, fun w hw => at32_hex s hs f0 n0 hSp m p ng tr true n hRf i5 v hv eh hH w hw⟩
        unfold told32w at hy
        split at hy
        · injection hy with hy; omega
        · cases hy
      | false =>
        by_cases hm : m = 0
        · subst hm
          obtain ⟨v, hv⟩ := nat_of _ (or_in32 (sgn32 ng) 0).1
          exact ⟨some v, n, 0, by omega, one v (or_lt32 _ _ v hv), fun w hw => at32_zero s hs f0 n0 hSp 0 p ng tr false n hRf v hv w hw⟩
        · have hm0 : 0 < m := by omega
          by_cases hp1 : 40 < p
          · obtain ⟨v, hv⟩ := nat_of _ (or_in32 (sgn32 ng) 2139095040).1
            exact ⟨some v, n, 1, by omega, one v (or_lt32 _ _ v hv), fun w hw => at32_over s hs f0 n0 hSp m p ng tr false n hRf hm0 hp1 v hv w hw⟩
          · by_cases hp0 : p < -70
            · obtain ⟨v, hv⟩ := nat_of _ (or_in32 (sgn32 ng) 0).1
              exact ⟨some v, n, 0, by omega, one v (or_lt32 _ _ v hv), fun w hw => at32_under s hs f0 n0 hSp m p ng tr false n hRf hm0 hp0 v hv w hw⟩
            · obtain ⟨f1, e1, hf1, h1⟩ := pf32_any m i1 i2 p (sgn32 ng) (by omega) (by omega) (sgn32_in ng).1 (sgn32_in ng).2
              cases tr with
              | false =>
                cases hdv : (m / 8388608 == 0) with
                | false => exact ⟨some f1, n, if e1 = true then 1 else 0, by split <;> omega, one f1 hf1, fun w hw => at32_parse s hs f0 n0 hSp m p ng false false n hRf hm0 (by omega) (by omega) 0 false (fun w _ => exact32_big m p ng i1 i2 hdv w) f1 e1 h1 w hw⟩
                | true =>
                  obtain ⟨c, hc⟩ : ∃ c : Nat, c = 1259902592 := ⟨_, rfl⟩
                  obtain ⟨c', hc'⟩ : ∃ c : Nat, c = 3407386240 := ⟨_, rfl⟩
                  obtain ⟨fx, okx, hT, hEx⟩ := told32 fpTab32 (fun j hj => notNought_num rfl (fp32_at j (by omega))) m p ng i1 i2 hdv c c' hc hc'
                  cases okx with
                  | true => exact ⟨some fx, n, 0, by omega, one fx (ex_lt32 _ _ _ _ _ _ (sgn_lt32 ng m) (hT rfl)), fun w hw => at32_exact s hs f0 n0 hSp m p ng false false n hRf hm0 (by omega) (by omega) fx true hEx w hw⟩
                  | false => exact ⟨some f1, n, if e1 = true then 1 else 0, by split <;> omega, one f1 hf1, fun w hw => at32_parse s hs f0 n0 hSp m p ng false false n hRf hm0 (by omega) (by omega) fx false hEx f1 e1 h1 w hw⟩
              | true =>
                obtain ⟨f2, e2, hf2, h2⟩ := pf32_any (IntKind.u64.wrap (m + 1)) (u64_in2 _).1 (u64_in2 _).2 p (sgn32 ng) (by omega) (by omega) (sgn32_in ng).1 (sgn32_in ng).2
                cases heq : ((FloatKind.f32.format.order f1 f2) == some Ordering.eq) with
                | true => exact ⟨some f1, n, if e1 = true then 1 else 0, by split <;> omega, one f1 hf1, fun w hw => at32_same s hs f0 n0 hSp m p ng true false n hRf hm0 (by omega) (by omega) i2 f1 f2 e1 e2 h1 h2 heq w hw⟩
                | false =>
                  obtain ⟨oks, y, hy, hSet⟩ := set_any (s.extract 0 n) (by rw [ByteArray.size_extract]; omega)
                  cases oks with
                  | false => exact ⟨some 0, n, 2, by omega, one 0 (by decide), fun w hw => at32_slow s hs f0 n0 hSp m p ng n hRf i5 hm0 i2 (by omega) (by omega) f1 f2 e1 e2 h1 h2 heq false y hSet 0 0 (by decide) false (fun h => by cases h) w hw⟩
                  | true =>
                    obtain ⟨v, o, hv0, hv1, hFb⟩ := floatBits_any32 y (hy rfl)
                    obtain ⟨v', rfl⟩ := nat_of v hv0
                    obtain ⟨vv, hvv⟩ := nat_of ((v' : Int) % 4294967296) (by omega)
                    exact ⟨some vv, n, if o = true then 1 else 0, by split <;> omega, one vv (by omega), fun w hw => at32_slow s hs f0 n0 hSp m p ng n hRf i5 hm0 i2 (by omega) (by omega) f1 f2 e1 e2 h1 h2 heq true y hSet v' vv hvv o (fun _ => hFb) w hw⟩
theorem sgn32_sgW (ng : Bool) : sgn32 ng = ((sgW 2147483648 ng : Nat) : Int) := by cases ng <;> rfl
/-- atof32 at a text that is read as m*10^p, which rounds to M*2^k. -/
theorem at32_word (s : ByteArray) (hs : (s.size : Int) ≤ 1000000) (f0 n0 : Nat) (hSp : SpRun s f0 n0 false) (m : Nat) (p : Int) (ng : Bool) (n : Nat) (hRf : RfRun s m p ng false false n true) (hm0 : 0 < m) (hm : m < 144115188075855872)
    (M : Nat) (k : Int) (hM0 : 0 < M) (hM1 : M < 16777216) (hk : -149 ≤ k) (hk1 : k ≤ 104) (hn : 8388608 ≤ M ∨ k = -149)
    (hfin : (k + 149).toNat * 8388608 + M < FloatKind.f32.format.infRung) (hR : Rounds ((m : Rat) * (10 : Rat) ^ p * (2 : Rat) ^ (-k)) M) (hl : (M : Int) = 8388608 → -149 < k → 4 * (((M : Nat) : Int) : Rat) - 1 ≤ 4 * ((m : Rat) * (10 : Rat) ^ p * (2 : Rat) ^ (-k)))
    (w : World) (hw : PW32 w) : Calls Tryz.prog 217 #[.string s] w (AtPost32 w (some (FloatKind.f32.format.word ng ((k + 149).toNat * 8388608 + M))) n 0) := by
  have hlo := half_least _ _ k (-149) (by omega) hk hR
  have hhi := not_past _ M k 16777216 24 129 (by omega) (by decide +kernel) (by omega) hR
  obtain ⟨p0, p1⟩ := p_range m hm0 hm p (-149 - 1) 129 (-70) 40 hlo hhi (by decide +kernel) (by decide +kernel)
  have hm0' : (0 : Int) < (m : Int) := by omega
  have hPf : PfRun32 m p (sgn32 ng) (FloatKind.f32.format.word ng ((k + 149).toNat * 8388608 + M)) false := by
    rw [sgn32_sgW]
    exact fun w hp hw => pf32_word m hm0 hm p p0 p1 ng M k hM0 hM1 hk hn hfin hR hl w hp hw
  cases hdv : ((m : Int) / 8388608 == 0) with
  | false =>
    have h := at32_parse s hs f0 n0 hSp m p ng false false n hRf hm0' p0 p1 0 false (fun w _ => exact32_big m p ng (by omega) (by omega) hdv w) _ false hPf w hw
    exact h
  | true =>
    obtain ⟨c, hc⟩ : ∃ c : Nat, c = 1259902592 := ⟨_, rfl⟩
    obtain ⟨c', hc'⟩ : ∃ c : Nat, c = 3407386240 := ⟨_, rfl⟩
    obtain ⟨f, ok, hT, hEx⟩ := told32 fpTab32 (fun j hj => notNought_num rfl (fp32_at j (by omega))) m p ng (by omega) (by omega) hdv c c' hc hc'
    cases ok with
    | false => exact at32_parse s hs f0 n0 hSp m p ng false false n hRf hm0' p0 p1 f false hEx _ false hPf w hw
    | true =>
      have hdv' : (m : Int) / 8388608 = 0 := by rw [← beq_iff_eq]; exact hdv
      have hfe := ex_back fmt32 fpTab32 10 17 c c' 10000000 (by decide) (by decide) fp32_at (by rw [hc]; exact num_of c32_num.1) (by rw [hc']; exact num_of c32_num.2) (by decide +kernel) ng m (by omega) (by omega) p f (hT rfl) M k (by omega) (by omega) hk (by omega) hR hl
      have e1 : k - -149 = k + 149 := by omega
      rw [e1, Int.toNat_natCast, Nat.min_eq_left (Nat.le_of_lt hfin)] at hfe
      rw [← hfe]
      exact at32_exact s hs f0 n0 hSp m p ng false false n hRf hm0' p0 p1 f true hEx w hw
end Go.Proofs.YtnggkkdcddpjlaaGreatDoor
