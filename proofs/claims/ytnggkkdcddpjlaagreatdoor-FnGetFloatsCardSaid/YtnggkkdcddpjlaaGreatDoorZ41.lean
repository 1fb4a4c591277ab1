/- The round trip at 32 bits; strconv.ParseFloat at 32 bits. -/
import Derived.Test.YtnggkkdcddpjlaaGreatDoorZ32
import Derived.Test.YtnggkkdcddpjlaaGreatDoorZ40
namespace Go.Proofs.YtnggkkdcddpjlaaGreatDoor
open Go.RowKit Ieee
set_option maxRecDepth 100000
set_option linter.unusedVariables false
theorem asm_inf (f s E r P Q I : Nat) (h : f = s * Q + E * P + r) (hr : r = 0) (hI : E * P = I) : f = s * Q + I := by
  rw [h, hr, hI]
  rfl
theorem nar_inf (s : Bool) : Narrow (if s = true then 18442240474082181120 else 9218868437227405312) (some (FloatKind.f32.format.word s FloatKind.f32.format.infRung)) := by
  have e : FloatKind.f64.format.word s FloatKind.f64.format.infRung = (if s = true then 18442240474082181120 else 9218868437227405312) := by cases s <;> decide
  show floatToFloatBits .f64 _ .f32 = _
  rw [← e]
  unfold floatToFloatBits
  have e2 : FloatKind.f64.decode (FloatKind.f64.format.word s FloatKind.f64.format.infRung) = .infinity s := rd_inf .f64 fmt64 s
  rw [if_neg (by decide), e2]
  rfl
/-- The round trip of a float of 32 bits. -/
def Trip32 (f : Nat) : Prop := ∃ (out : List UInt8), FtoaG 176 (.float .f32 f) out ∧ out.length ≤ 60 ∧ ∃ o, (∀ y, o = some y → y = f) ∧ (o = none → ¬ Num32 f) ∧ ∀ w, PW32 w → Calls Tryz.prog 217 #[.string (tx out)] w (AtPost32 w o out.length 0)
theorem trip_back32 (f M : Nat) (k d q : Int) (neg : Bool) (hM0 : 0 < M) (hM1 : M < 16777216) (hk : -149 ≤ k) (hk1 : k ≤ 104) (hn : 8388608 ≤ M ∨ k = -149) (hB : Back32 M k d q)
    (hf : f = FloatKind.f32.format.word neg ((k + 149).toNat * 8388608 + M)) (hfin : (k + 149).toNat * 8388608 + M < FloatKind.f32.format.infRung)
    (hF : ∀ (d' : Nat) (out : List UInt8), d = d' → -345 ≤ q → q ≤ 345 → d' < 18446744073709551616 → Prints neg (trimD d' (nd0 d') (nd0 d')) ((nd0 d' : Int) + q) (dgs d') out → FtoaG 176 (.float .f32 f) out) : Trip32 f := by
  obtain ⟨b0, b1, b2, b3⟩ := hB
  obtain ⟨d', rfl⟩ : ∃ d' : Nat, d = d' := ⟨d.toNat, by omega⟩
  rw [Rat.intCast_natCast d'] at b2 b3
  have hlo := half_least _ _ k (-149) (by omega) hk b2
  have hhi := not_past _ M k 16777216 24 129 (by omega) (by decide +kernel) (by omega) b2
  obtain ⟨q0, q1⟩ := p_range d' (by omega) (by omega) q (-149 - 1) 129 (-70) 40 hlo hhi (by decide +kernel) (by decide +kernel)
  obtain ⟨out, ho, hr⟩ := short_text neg d' q (by omega) (by omega) (by omega) (by omega)
  obtain ⟨m, p, hRf, m0, m1, hV⟩ := rf_reads hr
  have hsz := tx_size out
  have hl1 := hr.l1
  rw [← hV] at b2 b3
  refine ⟨out, hF d' out rfl (by omega) (by omega) (by omega) ho, hl1, some f, fun y hy => by injection hy with hy; exact hy.symm, fun h => (by cases h), fun w hw => ?_⟩
  rw [hf]
  exact at32_word (tx out) (by omega) 0 0 (sp_reads hr) m p neg out.length hRf m0 m1 M k hM0 hM1 hk hk1 hn hfin b2 b3 w hw
theorem trip32 (f : Nat) (hf : f < 4294967296) : Trip32 f := by
  obtain ⟨E, hEd⟩ : ∃ E, E = f / 8388608 % 256 := ⟨_, rfl⟩
  obtain ⟨r, hrd⟩ : ∃ r, r = f % 8388608 := ⟨_, rfl⟩
  obtain ⟨s, hsd⟩ : ∃ s, s = f / 2147483648 := ⟨_, rfl⟩
  have hdec : f = s * 2147483648 + E * 8388608 + r := by omega
  have hE : bits .and .i64 ((f : Int) / 8388608) 255 = (E : Int) := by
    rw [and_i64 _ 8 _ (by omega) (by decide)]
    omega
  have hfr : bits .and .u64 (f : Int) 8388607 = (r : Int) := by
    rw [and_u64 _ 23 _ (by omega) (by decide)]
    omega
  have hr1 : r < 8388608 := by omega
  have hE1 : E < 256 := by omega
  have hs1 : s ≤ 1 := by omega
  obtain ⟨neg, hneg⟩ : ∃ neg : Bool, s = if neg = true then 1 else 0 := by
    rcases (by omega : s = 0 ∨ s = 1) with h | h
    · exact ⟨false, by rw [h]; rfl⟩
    · exact ⟨true, by rw [h]; rfl⟩
  have hng : ((f : Int) / 2147483648 != 0) = neg := by
    have : (f : Int) / 2147483648 = (s : Int) := by omega
    rw [this, hneg]
    cases neg <;> rfl
  have hS : FloatKind.f32.format.signWeight = 2147483648 := by decide
  have hI : FloatKind.f32.format.infRung = 2139095040 := by decide
  have hword : ∀ x, FloatKind.f32.format.word neg x = s * 2147483648 + x := fun x => by
    unfold Format.word
    rw [hS, hneg]
    cases neg
    · simp
    · simp
  have HN := Lib.hid hneg
  clear hneg
  rcases (by omega : E = 255 ∨ (1 ≤ E ∧ E ≤ 254) ∨ E = 0) with h | h | h
  · rcases (by omega : r = 0 ∨ 1 ≤ r) with h0 | h0
    · cases neg with
      | false =>
        have hs0 : s = 0 := HN.out
        refine ⟨[43, 73, 110, 102], ftoaG32_pinf f f r rfl (by omega) (by omega) (by rw [hE, h]; rfl) hfr (by omega) hng, by decide, some f, fun y hy => by injection hy with hy; exact hy.symm, fun h => (by cases h), fun w hw => ?_⟩
        have hff : f = FloatKind.f32.format.word false FloatKind.f32.format.infRung := by rw [hword, hI]; exact asm_inf f s E r _ _ _ hdec h0 (by rw [h])
        exact at32_special _ (by decide) _ _ (sp_inf false) (some f) (by rw [hff]; exact nar_inf false) w hw
      | true =>
        have hs0 : s = 1 := HN.out
        refine ⟨[45, 73, 110, 102], ftoaG32_ninf f f r rfl (by omega) (by omega) (by rw [hE, h]; rfl) hfr (by omega) hng, by decide, some f, fun y hy => by injection hy with hy; exact hy.symm, fun h => (by cases h), fun w hw => ?_⟩
        have hff : f = FloatKind.f32.format.word true FloatKind.f32.format.infRung := by rw [hword, hI]; exact asm_inf f s E r _ _ _ hdec h0 (by rw [h])
        exact at32_special _ (by decide) _ _ (sp_inf true) (some f) (by rw [hff]; exact nar_inf true) w hw
    · refine ⟨[78, 97, 78], ftoaG32_nan f f r rfl (by omega) (by omega) (by rw [hE, h]; rfl) hfr (by rw [beq_eq_false_iff_ne]; omega), by decide, none, fun y hy => (by cases hy), fun _ => (by unfold Num32; omega), fun w hw => ?_⟩
      exact at32_special _ (by decide) _ _ sp_nan none (by show ¬ Num64 _; unfold Num64; decide) w hw
  · have hor : bits .or .u64 (r : Int) 8388608 = ((8388608 + r : Nat) : Int) := by
      have h1 := orK64 r 8388608 (by omega) (by decide)
      have h2 := add_or 23 1 r (by omega)
      rw [Nat.or_comm] at h1
      have e : (2 : Nat) ^ 23 = 8388608 := by decide
      rw [Nat.mul_one, e] at h2
      rw [← h2] at h1
      exact h1
    obtain ⟨M, hM⟩ : ∃ M, M = 8388608 + r := ⟨_, rfl⟩
    rw [← hM] at hor
    obtain ⟨d, q, hB, hSh⟩ := sh_norm32 M ((E : Int) - 150) (by omega) (by omega) (by omega) (by omega)
    have hk : ((E : Int) - 150 + 149).toNat = E - 1 := by omega
    refine trip_back32 f M _ d q neg (by omega) (by omega) (by omega) (by omega) (Or.inl (by omega)) hB (by rw [hword, hk]; exact asm_norm f s E r _ _ M hdec (by omega) hM) (by rw [hk, hI]; omega) (fun d' out hd hq0 hq1 hd64 hpr => ?_)
    subst hd
    refine ftoaG32_norm f f E r neg rfl (by omega) (by omega) hng hE hfr (by omega) (by omega) (by omega) (by omega) M hor (by omega) (by omega) (fun w => ?_) d' q hd64 hq0 hq1 ?_ out hpr
    · have h1 := Tryz.bits_Len64 (M : Int) w (by omega) (by omega)
      have h2 : Lib.bitLen ((M : Int)).toNat = 24 := by rw [Int.toNat_natCast]; exact bitLen_top _ 23 (by omega) (by omega) (by omega)
      rw [h2] at h1
      exact h1
    · have e1 : ((M * 1099511627776 : Nat) : Int) = (M : Int) * 1099511627776 := by rw [Int.natCast_mul]; rfl
      have e2 : (E : Int) - 150 - 40 = (E : Int) + -127 - 40 - 23 := by omega
      unfold Sh32 at hSh
      rw [e1, e2] at hSh
      exact hSh
  · rcases (by omega : r = 0 ∨ 1 ≤ r) with h0 | h0
    · have hfz := ftoaG32_zero f f E r neg rfl (by omega) (by omega) hng hE hfr (by omega) (by omega) (by omega) (by omega)
      refine ⟨_, hfz, by cases neg <;> decide, some f, fun y hy => by injection hy with hy; exact hy.symm, fun h => (by cases h), fun w hw => ?_⟩
      have hl : (if neg = true then [45, 48] else [48] : List UInt8).length = if neg = true then 2 else 1 := by cases neg <;> rfl
      rw [hl]
      refine at32_zero _ (by cases neg <;> decide) 0 0 ?_ 0 0 neg false false _ (rf_zero neg) f ?_ w hw
      · cases neg with
        | false => exact sp_digit (tx [48]) (by decide) (by decide) (by decide +kernel)
        | true => exact sp_neg (tx [45, 48]) (by decide) (by decide) (by decide +kernel) (by decide +kernel)
      · have hfs : f = s * 2147483648 := asm_zero f s E r _ _ hdec h h0
        rw [hfs, HN.out]
        cases neg <;> decide +kernel
    · have hlen := Lib.bitLen_le r 23 (by omega) hr1
      have hpos := bitLen_pos r h0 (by omega)
      obtain ⟨l, hl⟩ : ∃ l, l = Lib.bitLen r := ⟨_, rfl⟩
      rw [← hl] at hlen hpos
      have hrl : r < 2 ^ l := by
        have := (Lib.bitLenAux_bounds 64 r (by omega) (by omega)).2.2
        have e : Lib.bitLenAux 64 r = l := hl.symm
        rw [e] at this
        exact this
      have hrl2 : r < 2 ^ (64 - (64 - l)) := by
        have e : 64 - (64 - l) = l := by omega
        rw [e]
        exact hrl
      obtain ⟨d, q, hB, hSh⟩ := sh_sub32 r (64 - l) h0 (by omega) (by omega) hrl2
      have hk : ((-149 : Int) + 149).toNat = 0 := by decide
      refine trip_back32 f r (-149) d q neg h0 (by omega) (by omega) (by omega) (Or.inr rfl) hB (by rw [hword, hk]; exact asm_den f s E r _ _ hdec h) (by rw [hk, hI]; omega) (fun d' out hd hq0 hq1 hd64 hpr => ?_)
      subst hd
      have hw0 : IntKind.u64.wrap ((r : Int) * 2 ^ (64 - l)) = ((r * 2 ^ (64 - l) : Nat) : Int) := by
        have h1 : r * 2 ^ (64 - l) < 2 ^ l * 2 ^ (64 - l) := Nat.mul_lt_mul_of_pos_right hrl (Nat.two_pow_pos _)
        rw [← Nat.pow_add] at h1
        have h2 : l + (64 - l) = 64 := by omega
        have h3 : (2 : Nat) ^ 64 = 18446744073709551616 := by decide
        rw [h2, h3] at h1
        have h4 : (r : Int) * 2 ^ (64 - l) = ((r * 2 ^ (64 - l) : Nat) : Int) := by rw [Int.natCast_mul, Int.natCast_pow]; rfl
        rw [h4]
        generalize r * 2 ^ (64 - l) = x at h1
        rw [IntKind.wrap_u64]
        omega
      refine ftoaG32_den f f E r neg rfl (by omega) (by omega) hng hE hfr (by omega) (by omega) (by omega) (by rw [beq_eq_false_iff_ne]; omega) l hpos hlen _ hw0 (by omega) ?_ (fun w => ?_) d' q hd64 hq0 hq1 ?_ out hpr
      · have := u64_in2 ((r : Int) * 2 ^ (64 - l))
        rw [hw0] at this
        exact this.2
      · have h1 := Tryz.bits_Len64 (r : Int) w (by omega) (by omega)
        rw [Int.toNat_natCast, ← hl] at h1
        exact h1
      · have e2 : (-149 : Int) - ((64 - l : Nat) : Int) = -126 - (64 - (l : Int)) - 23 := by omega
        unfold Sh32 at hSh
        rw [e2] at hSh
        exact hSh
/-- A float of 64 bits made of one of 32 that is told. -/
def G32 (o : Option Nat) (g : Nat) : Prop := g < 18446744073709551616 ∧ match o with
  | some y => floatToFloatBits .f32 y .f64 = some g ∧ floatToFloatBits .f64 g .f32 = some y ∧ Num64 g
  | none => ¬ Num64 g
/-- The word, or none where it is a nan. -/
def nrm (o : Option Nat) : Option Nat := match o with
  | some y => told32w y
  | none => none
theorem is_wide (o : Option Nat) (ho : ∀ y, o = some y → y < 4294967296) (f : Nat) (h : Is32 o f) : ∃ (cv : World → Nat) (cd : Nat), (∀ w, (convert 66 25 (.float .f32 f)).run Tryz.prog w = .ok (.float .f64 (cv w)) (w.drewN cd)) ∧ ∀ w, G32 (nrm o) (cv w) := by
  cases o with
  | some y =>
    have hy := ho y rfl
    have hf : f = y := h
    subst hf
    obtain ⟨cv, cd, h1, h2⟩ := conv_wide f hy
    refine ⟨cv, cd, h1, fun w => ⟨(h2 w).1, ?_⟩⟩
    have hw := wide_told hy (h2 w)
    show match told32w f with | some y => floatToFloatBits .f32 y .f64 = some (cv w) ∧ floatToFloatBits .f64 (cv w) .f32 = some y ∧ Num64 (cv w) | none => ¬ Num64 (cv w)
    by_cases hn : Num32 f
    · have e : told32w f = some f := if_pos hn
      rw [e] at hw ⊢
      obtain ⟨a, b⟩ := (h2 w).2.1 hn
      exact ⟨a, hw, b⟩
    · have e : told32w f = none := if_neg hn
      rw [e] at hw ⊢
      exact hw
  | none =>
    obtain ⟨h0, h1⟩ := h
    obtain ⟨cv, cd, h2, h3⟩ := conv_wide f h0
    exact ⟨cv, cd, h2, fun w => ⟨(h3 w).1, (h3 w).2.2 h1⟩⟩
def AtG (w : World) (o : Option Nat) (n k : Nat) (e : Ending) (w' : World) : Prop := ∃ g, G32 o g ∧ e = .returned (.tuple #[.float .f64 g, .int .i64 n, er3 k]) ∧ Below w.heap.size w w'
theorem prefix32 (s : ByteArray) (o : Option Nat) (ho : ∀ y, o = some y → y < 4294967296) (n k : Nat) (h : ∀ w, PW32 w → Calls Tryz.prog 217 #[.string s] w (AtPost32 w o n k)) (w : World) (hw : PW32 w) :
    Calls Tryz.prog 194 #[.string s, .int .i64 32] w (AtG w (nrm o) n k) := by
  have H := Lib.hid h
  have HW := Lib.hid hw
  have HO := Lib.hid ho
  clear h hw ho
  obtain ⟨Q, hQ⟩ : ∃ Q, Q = AtG w (nrm o) n k := ⟨_, rfl⟩
  rw [← hQ]
  have HQ := Lib.hid hQ
  clear hQ
  go_enter Tryz.func194, Tryz.ntmps194
  go_wp2_with (go_at_call 217; refine (H.out _ HW.out).mono ?_; rintro r w1 ⟨f, hf, rfl, hb⟩; obtain ⟨cv, cd, hcv, hcw⟩ := is_wide o HO.out f hf; have HCW := Lib.hid hcw; have HB := Lib.hid hb; clear hcw hf hb)
  go_ret3
  rw [HQ.out]
  exact ⟨_, HCW.out _, rfl, below_dn HB.out _⟩
def InG (w : World) (o : Option Nat) (k : Nat) (e : Ending) (w' : World) : Prop := ∃ g, G32 o g ∧ e = .returned (.tuple #[.float .f64 g, er3 k]) ∧ Below w.heap.size w w'
theorem pfIn32_same (s : ByteArray) (o : Option Nat) (ho : ∀ y, o = some y → y < 4294967296) (n k : Nat) (h : ∀ w, PW32 w → Calls Tryz.prog 217 #[.string s] w (AtPost32 w o n k)) (hn : n = s.size) (w : World) (hw : PW32 w) :
    Calls Tryz.prog 171 #[.string s, .int .i64 32] w (InG w (nrm o) k) := by
  have H := Lib.hid (prefix32 s o ho n k h w hw)
  have hnb : ((n : Int) != s.size) = false := by simp; omega
  have hnb2 : (n != s.size) = false := by simp; omega
  clear h hw hn
  obtain ⟨Q, hQ⟩ : ∃ Q, Q = InG w (nrm o) k := ⟨_, rfl⟩
  rw [← hQ]
  have HQ := Lib.hid hQ
  clear hQ
  go_enter Tryz.func171, Tryz.ntmps171
  go_wp2_with (go_at_call 194; refine H.out.mono ?_; rintro r w1 ⟨g, hg, rfl, hb⟩; have HG := Lib.hid hg; have HB := Lib.hid hb; clear hg hb)
  (try go_ret3)
  rw [HQ.out]
  exact ⟨_, HG.out, rfl, HB.out⟩
theorem g32_zero : G32 (some 0) 0 := by
  have e : floatToFloatBits .f32 0 .f64 = some 0 := by decide +kernel
  obtain ⟨g, g1, g2, g3, g4⟩ := wid_nar 0 (by decide) (by unfold Num32; decide)
  rw [e] at g3
  injection g3 with g3
  subst g3
  exact ⟨by decide, e, g4, by unfold Num64; decide⟩
theorem pfIn32_other (s : ByteArray) (o : Option Nat) (ho : ∀ y, o = some y → y < 4294967296) (n k : Nat) (h : ∀ w, PW32 w → Calls Tryz.prog 217 #[.string s] w (AtPost32 w o n k)) (hn : n ≠ s.size) (w : World) (hw : PW32 w) :
    Calls Tryz.prog 171 #[.string s, .int .i64 32] w (InG w (some 0) 2) := by
  have H := Lib.hid (prefix32 s o ho n k h w hw)
  have hnb : ((n : Int) != s.size) = true := by simp; omega
  have hnb2 : (n != s.size) = true := by simp; omega
  clear h hw hn
  obtain ⟨Q, hQ⟩ : ∃ Q, Q = InG w (some 0) 2 := ⟨_, rfl⟩
  rw [← hQ]
  have HQ := Lib.hid hQ
  clear hQ
  go_enter Tryz.func171, Tryz.ntmps171
  go_wp2_with (go_at_call 194; refine H.out.mono ?_; rintro r w1 ⟨g, hg, rfl, hb⟩; have HG := Lib.hid hg; have HB := Lib.hid hb; clear hg hb)
  (try go_ret3)
  rw [HQ.out]
  exact ⟨_, g32_zero, rfl, HB.out⟩
/-- What ParseFloat at 32 bits leaves. -/
def Num32Post (w : World) (o : Option Nat) (bad : Bool) (e : Ending) (w' : World) : Prop := ∃ g er, G32 o g ∧ e = .returned (.tuple #[.float .f64 g, er]) ∧ ErrIs bad er ∧ Below w.heap.size w w'
theorem pf_run32 (s : ByteArray) (hs : s.size ≤ 1000000) (o : Option Nat) (k : Nat) (hk : k ≤ 2) (h : ∀ w, PW32 w → Calls Tryz.prog 171 #[.string s, .int .i64 32] w (InG w o k)) (w : World) (hg : Good w) (hw : PW32 w) :
    Calls Tryz.prog 133 #[.string s, .int .i64 32] w (Num32Post w o (decide (0 < k))) := by
  have H := Lib.hid h
  have HW := Lib.hid hw
  have HG := Lib.hid hg
  clear h hw hg
  obtain ⟨Q, hQ⟩ : ∃ Q, Q = Num32Post w o (decide (0 < k)) := ⟨_, rfl⟩
  rw [← hQ]
  have HQ := Lib.hid hQ
  clear hQ
  rcases Nat.eq_zero_or_pos k with hk0 | hk0
  · subst hk0
    unfold InG er3 at H
    rw [if_pos rfl] at H
    go_enter Tryz.func133, Tryz.ntmps133
    go_wp2_with (go_at_call 171; refine (H.out _ HW.out).mono ?_; rintro r w1 ⟨g, hg, rfl, hb⟩; have HGG := Lib.hid hg; have HB := Lib.hid hb; clear hg hb)
    rw [HQ.out]
    exact ⟨_, _, HGG.out, rfl, rfl, HB.out⟩
  · have hk12 : k = 1 ∨ k = 2 := by omega
    have hkb : decide (0 < k) = true := by simpa using hk0
    rw [hkb] at HQ
    have HK := Lib.hid hk12
    unfold InG er3 at H
    rw [if_neg (by omega)] at H
    clear hkb hk12
    go_enter Tryz.func133, Tryz.ntmps133
    go_wp2_with (first | (go_at_call 171; refine (H.out _ HW.out).mono ?_; rintro r w1 ⟨g, hg, rfl, hb⟩; have HGG := Lib.hid hg; have HB := Lib.hid hb; clear hg hb) | (go_at_call 136; refine (toErr _ _ _ _ k HK.out (by omega) _ (HG.out.on HB.out)).mono ?_; rintro r w2 ⟨N, rfl, hb2⟩; have HB2 := Lib.hid (belowOn HB.out hb2); clear hb2))
    rw [HQ.out]
    exact ⟨_, _, HGG.out, rfl, ⟨N, rfl⟩, HB2.out⟩
/-- strconv.ParseFloat(s, 32): total; its float, and whether there is an error, hang on the text alone. -/
theorem parseFloat32_any (s : ByteArray) (hs : s.size ≤ 1000000) : ∃ (o : Option Nat) (bad : Bool), (∀ y, o = some y → y < 4294967296 ∧ Num32 y) ∧ ∀ w, Good w → PW32 w → Calls Tryz.prog 133 #[.string s, .int .i64 32] w (Num32Post w o bad) := by
  obtain ⟨o, n, k, hk, ho, h⟩ := atof32_any s (by omega)
  have hnr : ∀ y, nrm o = some y → y < 4294967296 ∧ Num32 y := fun y hy => by
    cases o with
    | none => cases hy
    | some z =>
      have hz := ho z rfl
      have hy : told32w z = some y := hy
      unfold told32w at hy
      split at hy
      · rename_i hn
        injection hy with hy
        subst hy
        exact ⟨hz, hn⟩
      · cases hy
  by_cases hn : n = s.size
  · exact ⟨nrm o, _, hnr, fun w hg hw => pf_run32 s hs (nrm o) k hk (fun w hw => pfIn32_same s o ho n k h hn w hw) w hg hw⟩
  · exact ⟨some 0, _, fun y hy => by injection hy with hy; subst hy; exact ⟨by decide, by unfold Num32; decide⟩, fun w hg hw => pf_run32 s hs (some 0) 2 (by omega) (fun w hw => pfIn32_other s o ho n k h hn w hw) w hg hw⟩
/-- The round trip, by ParseFloat at 32 bits. -/
theorem trip32_pf (f : Nat) (hf : f < 4294967296) : ∃ (out : List UInt8), FtoaG 176 (.float .f32 f) out ∧ out.length ≤ 60 ∧ ∀ w, Good w → PW32 w → Calls Tryz.prog 133 #[.string (tx out), .int .i64 32] w (Num32Post w (told32w f) false) := by
  obtain ⟨out, h1, h2, o, h3, h4, h5⟩ := trip32 f hf
  refine ⟨out, h1, h2, fun w hg hw => ?_⟩
  have ho : ∀ y, o = some y → y < 4294967296 := fun y hy => by rw [h3 y hy]; exact hf
  have e : nrm o = told32w f := by
    cases o with
    | some y =>
      show told32w y = told32w f
      rw [h3 y rfl]
    | none =>
      have := h4 rfl
      have e2 : told32w f = none := if_neg this
      rw [e2]
      rfl
  have h := pf_run32 (tx out) (by rw [tx_size]; omega) (nrm o) 0 (by omega) (fun w hw => pfIn32_same (tx out) o ho _ 0 h5 (tx_size out).symm w hw) w hg hw
  rw [e] at h
  exact h
/-- The round trip, by ParseFloat at 64 bits. -/
theorem trip64_pf (f : Nat) (hf : f < 18446744073709551616) : ∃ (out : List UInt8) (f' : Nat), FtoaG 177 (.float .f64 f) out ∧ out.length ≤ 60 ∧ (f' = f ∨ (¬ Num64 f ∧ ¬ Num64 f')) ∧ ∀ w, Good w → PW w → Calls Tryz.prog 133 #[.string (tx out), .int .i64 64] w (NumPost w (.float .f64 f') false) := by
  obtain ⟨out, f', h1, h2, h3, h4⟩ := trip64 f hf
  refine ⟨out, f', h1, h2, ?_, fun w hg hw => pf_run (tx out) (by rw [tx_size]; omega) f' 0 (by omega) (fun w hw => pfIn_same (tx out) f' _ 0 h4 (tx_size out).symm w hw) w hg hw⟩
  rcases h3 with h3 | ⟨h3, h5⟩
  · exact Or.inl h3
  · exact Or.inr ⟨by unfold Num64; omega, by unfold Num64; omega⟩
end Go.Proofs.YtnggkkdcddpjlaaGreatDoor
