/- FnCastIntText's walk: an int of any width, as its decimal digits, cast back: whatever the arguments, true. -/
import Derived.Test.YtnggkkdcddpjlaaGreatDoorC3
namespace Go.Proofs.YtnggkkdcddpjlaaGreatDoor
open Go.RowKit
set_option maxRecDepth 100000
set_option linter.unusedVariables false

theorem dec_head (u : Nat) (h : 1 ≤ u) : ∃ c r, Lib.decDigits u = c :: r ∧ 49 ≤ c.toNat ∧ c.toNat ≤ 57 := by
  induction u using Nat.strongRecOn with
  | _ u ih =>
    by_cases h1 : u < 10
    · refine ⟨UInt8.ofNat (48 + u), [], Lib.decDigits_one h1, ?_, ?_⟩ <;> rw [UInt8.toNat_ofNat'] <;> omega
    · obtain ⟨c, r, e, h2, h3⟩ := ih (u / 10) (by omega) (by omega)
      exact ⟨c, r ++ [UInt8.ofNat (48 + u % 10)], by rw [Lib.decDigits, dif_neg h1, e]; rfl, h2, h3⟩
theorem dec_all (u : Nat) : ∀ c ∈ Lib.decDigits u, c.toNat ≠ 46 := by
  induction u using Nat.strongRecOn with
  | _ u ih =>
    by_cases h1 : u < 10
    · rw [Lib.decDigits_one h1]
      intro c hc
      simp only [List.mem_singleton] at hc
      subst hc
      rw [UInt8.toNat_ofNat']; omega
    · rw [Lib.decDigits, dif_neg h1]
      intro c hc
      rcases List.mem_append.1 hc with hc | hc
      · exact ih (u / 10) (by omega) c hc
      · simp only [List.mem_singleton] at hc
        subst hc
        rw [UInt8.toNat_ofNat']; omega
theorem no_point (l : List UInt8) (h : ∀ c ∈ l, c.toNat ≠ 46) : Lib.index l [46] = -1 := by
  induction l with
  | nil => rfl
  | cons b l ih =>
    have h1 : (46 == b) = false := by
      rw [beq_eq_false_iff_ne]
      intro e
      exact h b (by simp) (by rw [← e]; rfl)
    unfold Lib.index
    rw [ih (fun c hc => h c (List.mem_cons_of_mem _ hc))]
    simp [List.isPrefixOf, h1]
theorem itoa_point (n : Int) : decide (0 ≤ Lib.indexB ⟨(Lib.itoa n).toArray⟩ ⟨#[46]⟩) = false := by
  have : Lib.indexB ⟨(Lib.itoa n).toArray⟩ ⟨#[46]⟩ = -1 := by
    show Lib.index (Lib.itoa n) [46] = -1
    refine no_point _ ?_
    unfold Lib.itoa
    split
    · intro c hc
      rcases List.mem_cons.1 hc with hc | hc
      · subst hc; decide
      · exact dec_all _ c hc
    · exact dec_all _
  rw [this]; rfl
theorem itoa_len (n : Int) (h0 : -9223372036854775808 ≤ n) (h1 : n ≤ 9223372036854775807) : (⟨(Lib.itoa n).toArray⟩ : ByteArray).size ≤ 21 := by
  show (Lib.itoa n).length ≤ 21
  unfold Lib.itoa
  split
  · have := dec_len (u := n.natAbs) (by omega)
    rw [List.length_cons]; omega
  · have := dec_len (u := n.toNat) (by omega)
    omega
theorem cons_ne (c : UInt8) (r : List UInt8) : (⟨(c :: r).toArray⟩ : ByteArray).size ≠ 0 := by
  show (c :: r).length ≠ 0
  simp
theorem cons_head (c : UInt8) (r : List UInt8) (h : 0 < (⟨(c :: r).toArray⟩ : ByteArray).size) : (⟨(c :: r).toArray⟩ : ByteArray)[0] = c := rfl

/-- Digits without a sign and without a leading 0: strconv's own ParseUint, base 0. -/
theorem pu_dec (u : Nat) (h : 1 ≤ u) (hu : u < 18446744073709551616) (w : World) :
    Calls Tryz.prog 189 #[.string ⟨(Lib.decDigits u).toArray⟩, .int .i64 0, .int .i64 0] w fun e w' => e = .returned (.tuple #[.int .u64 u, .nilIface]) ∧ Below w.heap.size w w' := by
  obtain ⟨c, r, e, h2, h3⟩ := dec_head u h
  have hl := dec_len hu
  have hp := parse_dec u [] hu
  rw [List.append_nil, e] at hp
  rw [e] at hl ⊢
  refine (pu_digits ⟨(c :: r).toArray⟩ (cons_ne c r) (by have : (⟨(c :: r).toArray⟩ : ByteArray).size = (c :: r).length := rfl; rw [this]; omega) u c (by have := cons_ne c r; omega) rfl ?_ hp w).mono ?_
  · rw [beq_eq_false_iff_ne]; omega
  · rintro e w' ⟨rfl, rfl⟩
    exact ⟨rfl, Lib.bytesWorld_below ..⟩

theorem extract_tail (c : UInt8) (r : List UInt8) : (⟨(c :: r).toArray⟩ : ByteArray).extract 1 (⟨(c :: r).toArray⟩ : ByteArray).size = ⟨r.toArray⟩ := by
  have h := Lib.extract_to_end ⟨(c :: r).toArray⟩ 1
  apply ByteArray.ext
  apply Array.toList_inj.1
  rw [h]
  rfl

/-- strconv.ParseInt(s, 0, 0) at the decimal digits of n: n. -/
theorem spi_itoa (n : Int) (h0 : -9223372036854775808 ≤ n) (h1 : n ≤ 9223372036854775807) (w : World) :
    Calls Tryz.prog 155 #[.string ⟨(Lib.itoa n).toArray⟩, .int .i64 0, .int .i64 0] w fun e w' => e = .returned (.tuple #[.int .i64 n, .nilIface]) ∧ Below w.heap.size w w' := by
  refine spi_of _ n (fun w => ?_) w
  by_cases hneg : n < 0
  · have he : Lib.itoa n = 45 :: Lib.decDigits n.natAbs := by unfold Lib.itoa; rw [if_pos hneg]
    rw [he]
    have := pi_neg ⟨(45 :: Lib.decDigits n.natAbs).toArray⟩ ⟨(Lib.decDigits n.natAbs).toArray⟩ (cons_ne _ _) n.natAbs (by omega) (by omega) 45 (by have := cons_ne 45 (Lib.decDigits n.natAbs); omega) rfl (by decide) (by decide) (extract_tail _ _) (fun w => pu_dec n.natAbs (by omega) (by omega) w) w
    rw [show -(n.natAbs : Int) = n by omega] at this
    exact this
  · have he : Lib.itoa n = Lib.decDigits n.toNat := by unfold Lib.itoa; rw [if_neg hneg]
    rw [he]
    by_cases hz : n = 0
    · subst hz
      have e0 : Lib.decDigits (0 : Int).toNat = [48] := Lib.decDigits_one (by decide)
      rw [e0]
      exact pi_pos ⟨[48].toArray⟩ (cons_ne _ _) 0 (by omega) (by omega) 48 (by decide) rfl (by decide) (by decide) (fun w => pu_zero w) w
    · obtain ⟨c, r, e, h2, h3⟩ := dec_head n.toNat (by omega)
      have hU := fun w => pu_dec n.toNat (by omega) (by omega) w
      rw [e] at hU ⊢
      rw [show (n.toNat : Int) = n by omega] at hU
      exact pi_pos ⟨(c :: r).toArray⟩ (cons_ne _ _) n (by omega) (by omega) c (by have := cons_ne c r; omega) rfl (by rw [beq_eq_false_iff_ne]; omega) (by rw [beq_eq_false_iff_ne]; omega) hU w

theorem itoa_nonempty (n : Int) : (⟨(Lib.itoa n).toArray⟩ : ByteArray).toList.isEmpty = false := by
  rw [← decide_eq_emptyBytes]
  refine decide_eq_false (fun h => ?_)
  have hs : (⟨(Lib.itoa n).toArray⟩ : ByteArray).size = 0 := by rw [h]; rfl
  have hs2 : (Lib.itoa n).length = 0 := hs
  unfold Lib.itoa at hs2
  split at hs2
  · simp at hs2
  · rw [Lib.decDigits_length] at hs2
    have := Lib.nDigits_pos n.toNat
    omega
theorem decimal_any (n : Int) (h0 : -9223372036854775808 ≤ n) (h1 : n ≤ 9223372036854775807) (w : World) :
    Calls Tryz.prog 18 #[.int .i64 n] w fun e w' => e = .returned (.string ⟨(Lib.itoa n).toArray⟩) ∧ Below w.heap.size w w' := by
  unfold Lib.itoa
  split
  · exact decimal_neg n h0 (by omega) w
  · exact decimal_pos n (by omega) h1 w


theorem castInt_int (s : ByteArray) (hs : s.size ≤ 21) (hne : s.toList.isEmpty = false) (hdot : decide (0 ≤ Lib.indexB s ⟨#[46]⟩) = false) (N : Int) (h0 : -9223372036854775808 ≤ N) (h1 : N ≤ 9223372036854775807)
    (hP : ∀ w, Calls Tryz.prog 155 #[.string s, .int .i64 0, .int .i64 0] w fun e w' => e = .returned (.tuple #[.int .i64 N, .nilIface]) ∧ Below w.heap.size w w') (w : World) :
    Calls Tryz.prog 17 #[.int .i64 2, .agg #[.int .i64 14, .int .i64 0, .int .u64 0, .float .f64 0, .string s, .slice none 0 0, .slice none 0 0]] w fun e w' => e = .returned (.tuple #[.int .i64 N, .bool true]) ∧ Below w.heap.size w w' := by
  have ht := fun w => to_int_string 0 0 0 (.slice none 0 0) (.slice none 0 0) s hne N h0 h1 (fun w => parseInt_int s (by omega) hdot N hP w) w
  have HT := Lib.hid ht
  clear ht hne hdot hP
  go_enter Tryz.func17, Tryz.ntmps17
  go_wp2_with (go_at_call 25; refine (HT.out _).mono ?_; rintro e w2 ⟨rfl, hb2⟩)
  go_ret2
  exact ⟨rfl, belowOn (below_alloc w _) hb2⟩

set_option maxHeartbeats 800000 in
theorem law_int (k n : Int) (hk : 2 + (IntKind.u64.wrap k) % 5 = 2) (h0 : -9223372036854775808 ≤ n) (h1 : n ≤ 9223372036854775807) (w : World) (hg : Good w) :
    Calls Tryz.prog 4 #[.int .i64 k, .int .i64 n] w fun e w' => e = .returned (.bool true) ∧ Below w.heap.size w w' := by
  have hK := fun w => kindInt_any k w
  rw [hk] at hK
  have hC := fun w => cutInt_2 n h0 h1 w
  have hc := hC
  have c0 := h0
  have c1 := h1
  obtain ⟨c, hcn⟩ : ∃ c, c = n := ⟨_, rfl⟩
  subst hcn
  clear hc hk
  have hs := itoa_len c (by omega) (by omega)
  have hne := itoa_nonempty c
  have hdot := itoa_point c
  have hP := fun w => spi_itoa c (by omega) (by omega) w
  have hS := fun w hg => toString_int c 0 0 ⟨#[]⟩ (.slice none 0 0) (.slice none 0 0) c0 c1 w hg
  have hD := fun w => decimal_any c (by omega) (by omega) w
  obtain ⟨d, hd⟩ : ∃ d : ByteArray, d = ⟨(Lib.itoa c).toArray⟩ := ⟨_, rfl⟩
  rw [← hd] at hs hne hdot hP hS hD
  clear hd
  have hI := fun w => castInt_int d hs hne hdot c c0 c1 hP w
  have HK := Lib.hid hK
  have HC := Lib.hid hC
  have HS := Lib.hid hS
  have HD := Lib.hid hD
  have HI := Lib.hid hI
  clear hK hC hS hD hI hP hdot hne hs
  go_enter Tryz.func4, Tryz.ntmps4
  go_wp2_with (first | (go_at_call 14; refine (HK.out _).mono ?_; rintro e w1 ⟨rfl, rfl⟩) | (go_at_call 15; refine (HC.out _).mono ?_; rintro e w1 ⟨rfl, rfl⟩) | (go_at_call 16; refine (HS.out _ hg).mono ?_; rintro e w2 ⟨rfl, hb2⟩) | (go_at_call 17; refine (HI.out _).mono ?_; rintro e w3 ⟨rfl, hb3⟩) | (go_at_call 18; refine (HD.out _).mono ?_; rintro e w4 ⟨rfl, hb4⟩))
  go_ret
  exact ⟨rfl, belowOn hb2 (belowOn hb3 hb4)⟩


theorem castInt_int8 (s : ByteArray) (hs : s.size ≤ 21) (hne : s.toList.isEmpty = false) (hdot : decide (0 ≤ Lib.indexB s ⟨#[46]⟩) = false) (N : Int) (h0 : -128 ≤ N) (h1 : N ≤ 127)
    (hP : ∀ w, Calls Tryz.prog 155 #[.string s, .int .i64 0, .int .i64 0] w fun e w' => e = .returned (.tuple #[.int .i64 N, .nilIface]) ∧ Below w.heap.size w w') (w : World) :
    Calls Tryz.prog 17 #[.int .i64 3, .agg #[.int .i64 14, .int .i64 0, .int .u64 0, .float .f64 0, .string s, .slice none 0 0, .slice none 0 0]] w fun e w' => e = .returned (.tuple #[.int .i64 N, .bool true]) ∧ Below w.heap.size w w' := by
  have ht := fun w => to_int8_string 0 0 0 (.slice none 0 0) (.slice none 0 0) s hne N h0 h1 (fun w => parseInt_int8 s (by omega) hdot N h0 h1 hP w) w
  have HT := Lib.hid ht
  clear ht hne hdot hP
  go_enter Tryz.func17, Tryz.ntmps17
  go_wp2_with (go_at_call 44; refine (HT.out _).mono ?_; rintro e w2 ⟨rfl, hb2⟩)
  go_ret2
  exact ⟨rfl, belowOn (below_alloc w _) hb2⟩

set_option maxHeartbeats 800000 in
theorem law_int8 (k n : Int) (hk : 2 + (IntKind.u64.wrap k) % 5 = 3) (h0 : -9223372036854775808 ≤ n) (h1 : n ≤ 9223372036854775807) (w : World) (hg : Good w) :
    Calls Tryz.prog 4 #[.int .i64 k, .int .i64 n] w fun e w' => e = .returned (.bool true) ∧ Below w.heap.size w w' := by
  have hK := fun w => kindInt_any k w
  rw [hk] at hK
  have hC := fun w => cutInt_3 n h0 h1 w
  obtain ⟨c, hc⟩ : ∃ c, c = wrap64 (IntKind.i8.wrap n) := ⟨_, rfl⟩
  rw [← hc] at hC
  have c0 : -128 ≤ c := by rw [hc]; simp only [IntKind.wrap, IntKind.bits, IntKind.signed, wrap64]; simp; split <;> omega
  have c1 : c ≤ 127 := by rw [hc]; simp only [IntKind.wrap, IntKind.bits, IntKind.signed, wrap64]; simp; split <;> omega
  clear hc hk
  have hs := itoa_len c (by omega) (by omega)
  have hne := itoa_nonempty c
  have hdot := itoa_point c
  have hP := fun w => spi_itoa c (by omega) (by omega) w
  have hS := fun w hg => toString_int8 c 0 0 ⟨#[]⟩ (.slice none 0 0) (.slice none 0 0) c0 c1 w hg
  have hD := fun w => decimal_any c (by omega) (by omega) w
  obtain ⟨d, hd⟩ : ∃ d : ByteArray, d = ⟨(Lib.itoa c).toArray⟩ := ⟨_, rfl⟩
  rw [← hd] at hs hne hdot hP hS hD
  clear hd
  have hI := fun w => castInt_int8 d hs hne hdot c c0 c1 hP w
  have HK := Lib.hid hK
  have HC := Lib.hid hC
  have HS := Lib.hid hS
  have HD := Lib.hid hD
  have HI := Lib.hid hI
  clear hK hC hS hD hI hP hdot hne hs
  go_enter Tryz.func4, Tryz.ntmps4
  go_wp2_with (first | (go_at_call 14; refine (HK.out _).mono ?_; rintro e w1 ⟨rfl, rfl⟩) | (go_at_call 15; refine (HC.out _).mono ?_; rintro e w1 ⟨rfl, rfl⟩) | (go_at_call 16; refine (HS.out _ hg).mono ?_; rintro e w2 ⟨rfl, hb2⟩) | (go_at_call 17; refine (HI.out _).mono ?_; rintro e w3 ⟨rfl, hb3⟩) | (go_at_call 18; refine (HD.out _).mono ?_; rintro e w4 ⟨rfl, hb4⟩))
  go_ret
  exact ⟨rfl, belowOn hb2 (belowOn hb3 hb4)⟩


theorem castInt_int16 (s : ByteArray) (hs : s.size ≤ 21) (hne : s.toList.isEmpty = false) (hdot : decide (0 ≤ Lib.indexB s ⟨#[46]⟩) = false) (N : Int) (h0 : -32768 ≤ N) (h1 : N ≤ 32767)
    (hP : ∀ w, Calls Tryz.prog 155 #[.string s, .int .i64 0, .int .i64 0] w fun e w' => e = .returned (.tuple #[.int .i64 N, .nilIface]) ∧ Below w.heap.size w w') (w : World) :
    Calls Tryz.prog 17 #[.int .i64 4, .agg #[.int .i64 14, .int .i64 0, .int .u64 0, .float .f64 0, .string s, .slice none 0 0, .slice none 0 0]] w fun e w' => e = .returned (.tuple #[.int .i64 N, .bool true]) ∧ Below w.heap.size w w' := by
  have ht := fun w => to_int16_string 0 0 0 (.slice none 0 0) (.slice none 0 0) s hne N h0 h1 (fun w => parseInt_int16 s (by omega) hdot N h0 h1 hP w) w
  have HT := Lib.hid ht
  clear ht hne hdot hP
  go_enter Tryz.func17, Tryz.ntmps17
  go_wp2_with (go_at_call 45; refine (HT.out _).mono ?_; rintro e w2 ⟨rfl, hb2⟩)
  go_ret2
  exact ⟨rfl, belowOn (below_alloc w _) hb2⟩

set_option maxHeartbeats 800000 in
theorem law_int16 (k n : Int) (hk : 2 + (IntKind.u64.wrap k) % 5 = 4) (h0 : -9223372036854775808 ≤ n) (h1 : n ≤ 9223372036854775807) (w : World) (hg : Good w) :
    Calls Tryz.prog 4 #[.int .i64 k, .int .i64 n] w fun e w' => e = .returned (.bool true) ∧ Below w.heap.size w w' := by
  have hK := fun w => kindInt_any k w
  rw [hk] at hK
  have hC := fun w => cutInt_4 n h0 h1 w
  obtain ⟨c, hc⟩ : ∃ c, c = wrap64 (IntKind.i16.wrap n) := ⟨_, rfl⟩
  rw [← hc] at hC
  have c0 : -32768 ≤ c := by rw [hc]; simp only [IntKind.wrap, IntKind.bits, IntKind.signed, wrap64]; simp; split <;> omega
  have c1 : c ≤ 32767 := by rw [hc]; simp only [IntKind.wrap, IntKind.bits, IntKind.signed, wrap64]; simp; split <;> omega
  clear hc hk
  have hs := itoa_len c (by omega) (by omega)
  have hne := itoa_nonempty c
  have hdot := itoa_point c
  have hP := fun w => spi_itoa c (by omega) (by omega) w
  have hS := fun w hg => toString_int16 c 0 0 ⟨#[]⟩ (.slice none 0 0) (.slice none 0 0) c0 c1 w hg
  have hD := fun w => decimal_any c (by omega) (by omega) w
  obtain ⟨d, hd⟩ : ∃ d : ByteArray, d = ⟨(Lib.itoa c).toArray⟩ := ⟨_, rfl⟩
  rw [← hd] at hs hne hdot hP hS hD
  clear hd
  have hI := fun w => castInt_int16 d hs hne hdot c c0 c1 hP w
  have HK := Lib.hid hK
  have HC := Lib.hid hC
  have HS := Lib.hid hS
  have HD := Lib.hid hD
  have HI := Lib.hid hI
  clear hK hC hS hD hI hP hdot hne hs
  go_enter Tryz.func4, Tryz.ntmps4
  go_wp2_with (first | (go_at_call 14; refine (HK.out _).mono ?_; rintro e w1 ⟨rfl, rfl⟩) | (go_at_call 15; refine (HC.out _).mono ?_; rintro e w1 ⟨rfl, rfl⟩) | (go_at_call 16; refine (HS.out _ hg).mono ?_; rintro e w2 ⟨rfl, hb2⟩) | (go_at_call 17; refine (HI.out _).mono ?_; rintro e w3 ⟨rfl, hb3⟩) | (go_at_call 18; refine (HD.out _).mono ?_; rintro e w4 ⟨rfl, hb4⟩))
  go_ret
  exact ⟨rfl, belowOn hb2 (belowOn hb3 hb4)⟩


theorem castInt_int32 (s : ByteArray) (hs : s.size ≤ 21) (hne : s.toList.isEmpty = false) (hdot : decide (0 ≤ Lib.indexB s ⟨#[46]⟩) = false) (N : Int) (h0 : -2147483648 ≤ N) (h1 : N ≤ 2147483647)
    (hP : ∀ w, Calls Tryz.prog 155 #[.string s, .int .i64 0, .int .i64 0] w fun e w' => e = .returned (.tuple #[.int .i64 N, .nilIface]) ∧ Below w.heap.size w w') (w : World) :
    Calls Tryz.prog 17 #[.int .i64 5, .agg #[.int .i64 14, .int .i64 0, .int .u64 0, .float .f64 0, .string s, .slice none 0 0, .slice none 0 0]] w fun e w' => e = .returned (.tuple #[.int .i64 N, .bool true]) ∧ Below w.heap.size w w' := by
  have ht := fun w => to_int32_string 0 0 0 (.slice none 0 0) (.slice none 0 0) s hne N h0 h1 (fun w => parseInt_int32 s (by omega) hdot N h0 h1 hP w) w
  have HT := Lib.hid ht
  clear ht hne hdot hP
  go_enter Tryz.func17, Tryz.ntmps17
  go_wp2_with (go_at_call 46; refine (HT.out _).mono ?_; rintro e w2 ⟨rfl, hb2⟩)
  go_ret2
  exact ⟨rfl, belowOn (below_alloc w _) hb2⟩

set_option maxHeartbeats 800000 in
theorem law_int32 (k n : Int) (hk : 2 + (IntKind.u64.wrap k) % 5 = 5) (h0 : -9223372036854775808 ≤ n) (h1 : n ≤ 9223372036854775807) (w : World) (hg : Good w) :
    Calls Tryz.prog 4 #[.int .i64 k, .int .i64 n] w fun e w' => e = .returned (.bool true) ∧ Below w.heap.size w w' := by
  have hK := fun w => kindInt_any k w
  rw [hk] at hK
  have hC := fun w => cutInt_5 n h0 h1 w
  obtain ⟨c, hc⟩ : ∃ c, c = wrap64 (wrap32 n) := ⟨_, rfl⟩
  rw [← hc] at hC
  have c0 : -2147483648 ≤ c := by rw [hc]; unfold wrap64 wrap32; omega
  have c1 : c ≤ 2147483647 := by rw [hc]; unfold wrap64 wrap32; omega
  clear hc hk
  have hs := itoa_len c (by omega) (by omega)
  have hne := itoa_nonempty c
  have hdot := itoa_point c
  have hP := fun w => spi_itoa c (by omega) (by omega) w
  have hS := fun w hg => toString_int32 c 0 0 ⟨#[]⟩ (.slice none 0 0) (.slice none 0 0) c0 c1 w hg
  have hD := fun w => decimal_any c (by omega) (by omega) w
  obtain ⟨d, hd⟩ : ∃ d : ByteArray, d = ⟨(Lib.itoa c).toArray⟩ := ⟨_, rfl⟩
  rw [← hd] at hs hne hdot hP hS hD
  clear hd
  have hI := fun w => castInt_int32 d hs hne hdot c c0 c1 hP w
  have HK := Lib.hid hK
  have HC := Lib.hid hC
  have HS := Lib.hid hS
  have HD := Lib.hid hD
  have HI := Lib.hid hI
  clear hK hC hS hD hI hP hdot hne hs
  go_enter Tryz.func4, Tryz.ntmps4
  go_wp2_with (first | (go_at_call 14; refine (HK.out _).mono ?_; rintro e w1 ⟨rfl, rfl⟩) | (go_at_call 15; refine (HC.out _).mono ?_; rintro e w1 ⟨rfl, rfl⟩) | (go_at_call 16; refine (HS.out _ hg).mono ?_; rintro e w2 ⟨rfl, hb2⟩) | (go_at_call 17; refine (HI.out _).mono ?_; rintro e w3 ⟨rfl, hb3⟩) | (go_at_call 18; refine (HD.out _).mono ?_; rintro e w4 ⟨rfl, hb4⟩))
  go_ret
  exact ⟨rfl, belowOn hb2 (belowOn hb3 hb4)⟩


theorem castInt_int64 (s : ByteArray) (hs : s.size ≤ 21) (hne : s.toList.isEmpty = false) (hdot : decide (0 ≤ Lib.indexB s ⟨#[46]⟩) = false) (N : Int) (h0 : -9223372036854775808 ≤ N) (h1 : N ≤ 9223372036854775807)
    (hP : ∀ w, Calls Tryz.prog 155 #[.string s, .int .i64 0, .int .i64 0] w fun e w' => e = .returned (.tuple #[.int .i64 N, .nilIface]) ∧ Below w.heap.size w w') (w : World) :
    Calls Tryz.prog 17 #[.int .i64 6, .agg #[.int .i64 14, .int .i64 0, .int .u64 0, .float .f64 0, .string s, .slice none 0 0, .slice none 0 0]] w fun e w' => e = .returned (.tuple #[.int .i64 N, .bool true]) ∧ Below w.heap.size w w' := by
  have ht := fun w => to_int64_string 0 0 0 (.slice none 0 0) (.slice none 0 0) s hne N h0 h1 (fun w => parseInt_int64 s (by omega) hdot N hP w) w
  have HT := Lib.hid ht
  clear ht hne hdot hP
  go_enter Tryz.func17, Tryz.ntmps17
  go_wp2_with (go_at_call 47; refine (HT.out _).mono ?_; rintro e w2 ⟨rfl, hb2⟩)
  go_ret2
  exact ⟨rfl, belowOn (below_alloc w _) hb2⟩

set_option maxHeartbeats 800000 in
theorem law_int64 (k n : Int) (hk : 2 + (IntKind.u64.wrap k) % 5 = 6) (h0 : -9223372036854775808 ≤ n) (h1 : n ≤ 9223372036854775807) (w : World) (hg : Good w) :
    Calls Tryz.prog 4 #[.int .i64 k, .int .i64 n] w fun e w' => e = .returned (.bool true) ∧ Below w.heap.size w w' := by
  have hK := fun w => kindInt_any k w
  rw [hk] at hK
  have hC := fun w => cutInt_6 n h0 h1 w
  have hc := hC
  have c0 := h0
  have c1 := h1
  obtain ⟨c, hcn⟩ : ∃ c, c = n := ⟨_, rfl⟩
  subst hcn
  clear hc hk
  have hs := itoa_len c (by omega) (by omega)
  have hne := itoa_nonempty c
  have hdot := itoa_point c
  have hP := fun w => spi_itoa c (by omega) (by omega) w
  have hS := fun w hg => toString_int64 c 0 0 ⟨#[]⟩ (.slice none 0 0) (.slice none 0 0) c0 c1 w hg
  have hD := fun w => decimal_any c (by omega) (by omega) w
  obtain ⟨d, hd⟩ : ∃ d : ByteArray, d = ⟨(Lib.itoa c).toArray⟩ := ⟨_, rfl⟩
  rw [← hd] at hs hne hdot hP hS hD
  clear hd
  have hI := fun w => castInt_int64 d hs hne hdot c c0 c1 hP w
  have HK := Lib.hid hK
  have HC := Lib.hid hC
  have HS := Lib.hid hS
  have HD := Lib.hid hD
  have HI := Lib.hid hI
  clear hK hC hS hD hI hP hdot hne hs
  go_enter Tryz.func4, Tryz.ntmps4
  go_wp2_with (first | (go_at_call 14; refine (HK.out _).mono ?_; rintro e w1 ⟨rfl, rfl⟩) | (go_at_call 15; refine (HC.out _).mono ?_; rintro e w1 ⟨rfl, rfl⟩) | (go_at_call 16; refine (HS.out _ hg).mono ?_; rintro e w2 ⟨rfl, hb2⟩) | (go_at_call 17; refine (HI.out _).mono ?_; rintro e w3 ⟨rfl, hb3⟩) | (go_at_call 18; refine (HD.out _).mono ?_; rintro e w4 ⟨rfl, hb4⟩))
  go_ret
  exact ⟨rfl, belowOn hb2 (belowOn hb3 hb4)⟩


theorem law_any (k n : Int) (h0 : -9223372036854775808 ≤ n) (h1 : n ≤ 9223372036854775807) (w : World) (hg : Good w) :
    Calls Tryz.prog 4 #[.int .i64 k, .int .i64 n] w fun e w' => e = .returned (.bool true) ∧ Below w.heap.size w w' := by
  have a0 : 0 ≤ (IntKind.u64.wrap k) % 5 := by omega
  have a1 : (IntKind.u64.wrap k) % 5 < 5 := by omega
  have h : 2 + (IntKind.u64.wrap k) % 5 = 2 ∨ 2 + (IntKind.u64.wrap k) % 5 = 3 ∨ 2 + (IntKind.u64.wrap k) % 5 = 4 ∨ 2 + (IntKind.u64.wrap k) % 5 = 5 ∨ 2 + (IntKind.u64.wrap k) % 5 = 6 := by omega
  rcases h with h | h | h | h | h
  · exact law_int k n h h0 h1 w hg
  · exact law_int8 k n h h0 h1 w hg
  · exact law_int16 k n h h0 h1 w hg
  · exact law_int32 k n h h0 h1 w hg
  · exact law_int64 k n h h0 h1 w hg

end Go.Proofs.YtnggkkdcddpjlaaGreatDoor