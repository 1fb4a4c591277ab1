/- Floats of 32 bits made wider and narrow again; a nan that is converted. -/
import Derived.Test.YtnggkkdcddpjlaaGreatDoorZ15
import Derived.Test.YtnggkkdcddpjlaaGreatDoorZ01
namespace Go.Proofs.YtnggkkdcddpjlaaGreatDoor
open Go.RowKit Ieee
set_option linter.unusedVariables false
set_option maxRecDepth 100000
/-- The words that are no nan. -/
def Num64 (f : Nat) : Prop := f % 9223372036854775808 ≤ 9218868437227405312
def Num32 (f : Nat) : Prop := f % 2147483648 ≤ 2139095040
theorem rd_inf (κ : FloatKind) {F B : Nat} {L : Int} (hf : Fmt κ.format F B L) (ng : Bool) : κ.format.read (κ.format.word ng κ.format.infRung) = .infinity ng := by
  have hsw := hf.sw
  have htop := hf.top
  have hB0 := hf.four
  unfold Format.read Format.word
  rw [hf.bi]
  generalize κ.format.signWeight = S at *
  generalize κ.format.infRung = I at *
  have q1 : (if ng = true then S + I else I) % S = I := by
    cases ng
    · simp only [Bool.false_eq_true, if_false]
      exact Nat.mod_eq_of_lt (by omega)
    · simp only [if_true]
      rw [Nat.add_mod_left]
      exact Nat.mod_eq_of_lt (by omega)
  have q2 : ((if ng = true then S + I else I) / S % 2 == 1) = ng := by
    cases ng
    · simp only [Bool.false_eq_true, if_false]
      rw [Nat.div_eq_of_lt (by omega)]
      rfl
    · simp only [if_true]
      rw [Nat.add_div_left _ (by omega), Nat.div_eq_of_lt (by omega)]
      rfl
  dsimp only
  rw [q1, q2, if_neg (by omega), if_neg (by omega), if_pos rfl]
theorem rd_zero (κ : FloatKind) {F B : Nat} {L : Int} (hf : Fmt κ.format F B L) (ng : Bool) : κ.format.read (κ.format.word ng 0) = .number ng 0 L := by
  have h := read_word hf ng 0 L (by omega) (by have := hf.four; omega) (by omega) (Or.inr rfl) (by have := hf.top; have := hf.four; simp; omega)
  have e : (L - L).toNat * B + (0 : Int).toNat = 0 := by simp
  rw [e] at h
  exact h
/-- A number of 32 bits made wider is a word, and narrow again it is itself. -/
theorem wid_nar (y : Nat) (hy : y < 4294967296) (hn : Num32 y) : ∃ h, h < 18446744073709551616 ∧ Num64 h ∧ floatToFloatBits .f32 y .f64 = some h ∧ floatToFloatBits .f64 h .f32 = some y := by
  have i64 : FloatKind.f64.format.infRung = 9218868437227405312 := by decide
  have i32 : FloatKind.f32.format.infRung = 2139095040 := by decide
  have s64 : FloatKind.f64.format.signWeight = 9223372036854775808 := by decide
  have s32 : FloatKind.f32.format.signWeight = 2147483648 := by decide
  have ne1 : ¬ (FloatKind.f32 = FloatKind.f64) := by decide
  have ne2 : ¬ (FloatKind.f64 = FloatKind.f32) := by decide
  obtain ⟨s, hs⟩ : ∃ s : Bool, y = FloatKind.f32.format.word s (y % 2147483648) := by
    unfold Format.word
    rw [s32]
    rcases (by omega : y < 2147483648 ∨ 2147483648 ≤ y) with h | h
    · exact ⟨false, by simp; omega⟩
    · exact ⟨true, by simp; omega⟩
  have w64 : ∀ r, r ≤ 9218868437227405312 → FloatKind.f64.format.word s r < 18446744073709551616 ∧ Num64 (FloatKind.f64.format.word s r) := fun r hr => by
    unfold Format.word Num64
    rw [s64]
    cases s
    · simp only [Bool.false_eq_true, if_false]; omega
    · simp only [if_true]; omega
  unfold Num32 at hn
  obtain ⟨r, hr⟩ : ∃ r, r = y % 2147483648 := ⟨_, rfl⟩
  rw [← hr] at hs hn
  unfold floatToFloatBits
  rw [if_neg ne1]
  rcases (by omega : r = 2139095040 ∨ r = 0 ∨ (0 < r ∧ r < 2139095040)) with h | h | ⟨h0, h1⟩
  · refine ⟨FloatKind.f64.format.word s FloatKind.f64.format.infRung, (w64 _ (by rw [i64]; exact Nat.le_refl _)).1, (w64 _ (by rw [i64]; exact Nat.le_refl _)).2, ?_, ?_⟩
    · have e : FloatKind.f32.decode y = .infinity s := by rw [hs, h, ← i32]; exact rd_inf .f32 fmt32 s
      rw [e]
      rfl
    · have e : FloatKind.f64.decode (FloatKind.f64.format.word s FloatKind.f64.format.infRung) = .infinity s := rd_inf .f64 fmt64 s
      rw [if_neg ne2, e]
      show some (FloatKind.f32.format.word s FloatKind.f32.format.infRung) = some y
      rw [hs, h, i32]
  · refine ⟨FloatKind.f64.format.word s 0, (w64 _ (by omega)).1, (w64 _ (by omega)).2, ?_, ?_⟩
    · have e : FloatKind.f32.decode y = .number s 0 (-149) := by rw [hs, h]; exact rd_zero .f32 fmt32 s
      have e2 : FloatKind.f64.encode (.number s 0 (-149)) = FloatKind.f64.format.word s 0 := rfl
      have e3 : FloatKind.f64.decode (FloatKind.f64.format.word s 0) = .number s 0 (-1074) := rd_zero .f64 fmt64 s
      rw [e]
      dsimp only
      rw [e2, e3]
      rfl
    · have e : FloatKind.f64.decode (FloatKind.f64.format.word s 0) = .number s 0 (-1074) := rd_zero .f64 fmt64 s
      have e2 : FloatKind.f32.encode (.number s 0 (-1074)) = FloatKind.f32.format.word s 0 := rfl
      have e3 : FloatKind.f32.decode (FloatKind.f32.format.word s 0) = .number s 0 (-149) := rd_zero .f32 fmt32 s
      rw [if_neg ne2, e]
      dsimp only
      rw [e2, e3, hs, h]
      rfl
  · -- a finite number
    obtain ⟨M, k, hM0, hM1, hk0, hk1, hn2, hrung⟩ : ∃ (M : Nat) (k : Int), 0 < M ∧ M < 16777216 ∧ -149 ≤ k ∧ k ≤ 104 ∧ (8388608 ≤ M ∨ k = -149) ∧ r = (k + 149).toNat * 8388608 + M := by
      rcases (by omega : r < 8388608 ∨ 8388608 ≤ r) with h | h
      · exact ⟨r, -149, h0, by omega, by omega, by omega, Or.inr rfl, by simp⟩
      · refine ⟨8388608 + r % 8388608, (r / 8388608 : Nat) - 1 - 149, by omega, by omega, by omega, by omega, Or.inl (by omega), ?_⟩
        have e : (((r / 8388608 : Nat) : Int) - 1 - 149 + 149).toNat = r / 8388608 - 1 := by omega
        rw [e]
        have := Nat.div_add_mod r 8388608
        have h3 : 1 ≤ r / 8388608 := by omega
        obtain ⟨e, he⟩ : ∃ e, r / 8388608 = e + 1 := ⟨r / 8388608 - 1, by omega⟩
        rw [he] at this ⊢
        omega
    have hk149 : k - -149 = k + 149 := by omega
    have ey : FloatKind.f32.format.read y = .number s M k := by
      have h := read_word fmt32 s (M : Int) k (by omega) (by omega) hk0 (by omega) (by rw [hk149, Int.toNat_natCast, ← hrung, i32]; exact h1)
      rw [hk149, Int.toNat_natCast, ← hrung, ← hs] at h
      exact h
    have hMz : M ≠ 0 := by omega
    have hlg : M.log2 < 24 := (Nat.log2_lt hMz).2 hM1
    have l1 : 2 ^ M.log2 ≤ M := Nat.log2_self_le hMz
    have l2 : M < 2 ^ (M.log2 + 1) := Nat.lt_log2_self
    have hw := near_exact fmt64 s M hMz (by omega) k (by omega)
    have p1 : 2 ^ M.log2 * 2 ^ (52 - M.log2) = 4503599627370496 := by
      rw [← Nat.pow_add]
      have : M.log2 + (52 - M.log2) = 52 := by omega
      rw [this]
    have g1 : 4503599627370496 ≤ M * 2 ^ (52 - M.log2) := by
      rw [← p1]
      exact Nat.mul_le_mul_right _ l1
    have g2 : M * 2 ^ (52 - M.log2) < 9007199254740992 := by
      have : M * 2 ^ (52 - M.log2) < 2 ^ (M.log2 + 1) * 2 ^ (52 - M.log2) := Nat.mul_lt_mul_of_pos_right l2 (Nat.two_pow_pos _)
      rw [Nat.pow_succ, Nat.mul_comm (2 ^ M.log2) 2, Nat.mul_assoc, p1] at this
      omega
    obtain ⟨M2, hM2⟩ : ∃ M2, M2 = M * 2 ^ (52 - M.log2) := ⟨_, rfl⟩
    have eV : (M2 : Rat) * (2 : Rat) ^ (k + M.log2 - 52) = (M : Rat) * (2 : Rat) ^ k := by
      rw [hM2, Rat.natCast_mul, two_cast, Rat.mul_assoc, ← two_add]
      congr 2
      omega
    rw [← hM2] at hw g1 g2
    obtain ⟨k2, hk2⟩ : ∃ k2 : Int, k2 = k + M.log2 - 52 := ⟨_, rfl⟩
    have ek : k + M.log2 - ((52 : Nat) : Int) - -1074 = k2 - -1074 := by omega
    rw [← hk2] at eV
    rw [ek] at hw
    have hk20 : -1074 ≤ k2 ∧ k2 ≤ 971 := by omega
    have hlt : (k2 - -1074).toNat * 4503599627370496 + M2 < 9218868437227405312 := by omega
    rw [Nat.min_eq_left (by rw [i64]; exact Nat.le_of_lt hlt)] at hw
    have eh : FloatKind.f64.format.read (FloatKind.f64.format.nearest s M k) = .number s M2 k2 := by
      have h := read_word fmt64 s (M2 : Int) k2 (by omega) (by omega) hk20.1 (by omega) (by rw [Int.toNat_natCast, i64]; exact hlt)
      rw [Int.toNat_natCast, ← hw] at h
      exact h
    have hnar : FloatKind.f32.format.nearest s M2 k2 = y := by
      have hX : (M2 : Rat) * (2 : Rat) ^ (k2 - k) = (((M : Nat) : Int) : Rat) := by
        have : k2 - k = k2 + -k := by omega
        rw [this, two_add, ← Rat.mul_assoc, eV, Rat.mul_assoc, ← two_add]
        have : k + -k = 0 := by omega
        rw [this]
        have : (2 : Rat) ^ (0 : Int) = 1 := by decide
        rw [this, Rat.mul_one, Rat.intCast_natCast]
      have h := near_rung FloatKind.f32.format s M2 k2 M2 8388608 (M : Int) k (-149) (by omega) (Or.inl rfl) fmt32.bi fmt32.le (by decide) (by omega) (by omega) hk0 (by omega)
        (by rw [hX]; unfold Rounds; split <;> constructor <;> grind) (fun _ _ => by rw [hX]; grind)
      rw [hk149, Int.toNat_natCast, ← hrung, Nat.min_eq_left (by rw [i32]; omega), ← hs] at h
      exact h
    refine ⟨FloatKind.f64.format.nearest s M k, ?_, ?_, ?_, ?_⟩
    · rw [hw]; exact (w64 _ (Nat.le_of_lt hlt)).1
    · rw [hw]; exact (w64 _ (Nat.le_of_lt hlt)).2
    · have e : FloatKind.f32.decode y = .number s M k := ey
      have e2 : FloatKind.f64.encode (.number s M k) = FloatKind.f64.format.nearest s M k := rfl
      have e3 : FloatKind.f64.decode (FloatKind.f64.format.nearest s M k) = .number s M2 k2 := eh
      rw [e]
      dsimp only
      rw [e2, e3]
      rfl
    · have e : FloatKind.f64.decode (FloatKind.f64.format.nearest s M k) = .number s M2 k2 := eh
      have e2 : FloatKind.f32.encode (.number s M2 k2) = y := hnar
      have e3 : FloatKind.f32.decode y = .number s M k := ey
      rw [if_neg ne2, e]
      dsimp only
      rw [e2, e3]
      rfl
theorem nan_read (κ : FloatKind) {F B : Nat} {L : Int} (hf : Fmt κ.format F B L) (x : Nat) (h : κ.format.infRung < x % κ.format.signWeight) : ∃ s t, κ.decode x = .nan s t := by
  have htop := hf.top
  have hB0 := hf.four
  show ∃ s t, κ.format.read x = .nan s t
  unfold Format.read
  rw [hf.bi]
  dsimp only
  rw [if_neg (by omega), if_neg (by omega), if_neg (by omega)]
  exact ⟨_, _, rfl⟩
theorem run_conv_nan {P : Program} (w : World) (src dst : TypeId) (s k : FloatKind) (b n : Nat) (hs : (P.underlying src).isSome = true) (hd : P.underlying dst = some (.float k)) (hne : s ≠ k) (sg : Bool) (pl : Nat) (hn : s.decode b = .nan sg pl) (hq : (Question.nanConv k b).cut (w.tape w.drawn (.nanConv k b)) = n) :
    (convert src dst (.float s b)).run P w = .ok (.float k n) w.drew := by
  obtain ⟨u, hs'⟩ := Option.isSome_iff_exists.1 hs
  have hf : (Question.nanConv k b).forced = false := rfl
  cases u <;> simp [convert, run_underlying hs', run_underlying hd, Conv.floatToFloat, hne, hn, hf, hq]
/-- A nan that is converted: a nan of the other kind, drawn. -/
theorem conv_nan (src dst : TypeId) (s k : FloatKind) (b : Nat) (hs : (Tryz.prog.underlying src).isSome = true) (hd : Tryz.prog.underlying dst = some (.float k)) (hne : s ≠ k) (hn : ∃ t u, s.decode b = .nan t u) :
    ∃ nn : World → Nat, ∀ w, (convert src dst (.float s b)).run Tryz.prog w = .ok (.float k (nn w)) w.drew ∧ (match k with | .f32 => nn w < 4294967296 ∧ ¬ Num32 (nn w) | .f64 => nn w < 18446744073709551616 ∧ ¬ Num64 (nn w)) := by
  obtain ⟨t, u, hn⟩ := hn
  refine ⟨fun w => (Question.nanConv k b).cut (w.tape w.drawn (.nanConv k b)), fun w => ⟨?_, ?_⟩⟩
  · exact run_conv_nan w src dst s k b _ hs hd hne t u hn rfl
  · cases k with
    | f32 =>
      obtain ⟨x, hx⟩ : ∃ x, x = w.tape w.drawn (.nanConv .f32 b) := ⟨_, rfl⟩
      show (Question.nanConv .f32 b).cut (w.tape w.drawn (.nanConv .f32 b)) < 4294967296 ∧ ¬ Num32 ((Question.nanConv .f32 b).cut (w.tape w.drawn (.nanConv .f32 b)))
      rw [← hx]
      obtain ⟨c, hc⟩ : ∃ c, c = (Question.nanConv .f32 b).cut x := ⟨_, rfl⟩
      rw [← hc]
      have hc2 : c = (x % 2) * 2147483648 + 2139095040 + 1 + (x / 2) % 8388607 := hc
      obtain ⟨y, hy⟩ : ∃ y, y = (x / 2) % 8388607 := ⟨_, rfl⟩
      have hy1 : y < 8388607 := by rw [hy]; exact Nat.mod_lt _ (by decide)
      rw [← hy] at hc2
      clear hy hc hx
      rcases (by omega : x % 2 = 0 ∨ x % 2 = 1) with h | h <;> rw [h] at hc2
      all_goals
        unfold Num32
        omega
    | f64 =>
      obtain ⟨x, hx⟩ : ∃ x, x = w.tape w.drawn (.nanConv .f64 b) := ⟨_, rfl⟩
      show (Question.nanConv .f64 b).cut (w.tape w.drawn (.nanConv .f64 b)) < 18446744073709551616 ∧ ¬ Num64 ((Question.nanConv .f64 b).cut (w.tape w.drawn (.nanConv .f64 b)))
      rw [← hx]
      obtain ⟨c, hc⟩ : ∃ c, c = (Question.nanConv .f64 b).cut x := ⟨_, rfl⟩
      rw [← hc]
      have hc2 : c = (x % 2) * 9223372036854775808 + 9218868437227405312 + 1 + (x / 2) % 4503599627370495 := hc
      obtain ⟨y, hy⟩ : ∃ y, y = (x / 2) % 4503599627370495 := ⟨_, rfl⟩
      have hy1 : y < 4503599627370495 := by rw [hy]; exact Nat.mod_lt _ (by decide)
      rw [← hy] at hc2
      clear hy hc hx
      rcases (by omega : x % 2 = 0 ∨ x % 2 = 1) with h | h <;> rw [h] at hc2
      all_goals
        unfold Num64
        omega
end Go.Proofs.YtnggkkdcddpjlaaGreatDoor
