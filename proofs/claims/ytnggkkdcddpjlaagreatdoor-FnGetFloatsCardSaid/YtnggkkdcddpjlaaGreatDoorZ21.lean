/- internal/strconv.underscoreOK: total, and its answer hangs on the text alone. internal/strconv.readFloat: total, and what it answers hangs on the text alone. -/
import Derived.Test.YtnggkkdcddpjlaaGreatDoorZ02
import Derived.Test.YtnggkkdcddpjlaaGreatDoorZ19
import Derived.Test.YtnggkkdcddpjlaaGreatDoorZ20
namespace Go.Proofs.YtnggkkdcddpjlaaGreatDoor
open Go.RowKit
set_option maxRecDepth 100000
set_option linter.unusedVariables false
set_option linter.unusedSimpArgs false
structure US where
  i : Nat
  saw : Int
def usStep (hex : Bool) (s : ByteArray) (x : US) : Option US :=
  if x.i < s.size then
    if (48 ≤ byt s x.i ∧ byt s x.i ≤ 57) ∨ (hex = true ∧ 97 ≤ low (byt s x.i) ∧ low (byt s x.i) ≤ 102) then some ⟨x.i + 1, 48⟩
    else if byt s x.i = 95 then (if x.saw = 48 then some ⟨x.i + 1, 95⟩ else none)
    else if x.saw = 95 then none else some ⟨x.i + 1, 33⟩
  else none
structure USI (s : ByteArray) (x : US) : Prop where
  i : x.i ≤ s.size
theorem us_keep (hex : Bool) (s : ByteArray) (x y : US) (h : USI s x) (hs : usStep hex s x = some y) : USI s y ∧ s.size - y.i < s.size - x.i := by
  obtain ⟨a1⟩ := h
  unfold usStep at hs
  split at hs
  · (repeat' split at hs) <;> first | (cases hs; done) | (simp only [Option.some.injEq] at hs; subst hs; refine ⟨⟨?_⟩, ?_⟩ <;> dsimp only <;> omega)
  · cases hs
theorem us_at {hex : Bool} {s : ByteArray} {k : Nat} {saw : Int} (hk : k < s.size) (c : Int) (hc : byt s k = c) (lc : Int) (hl : low c = lc) : usStep hex s ⟨k, saw⟩ =
    if (48 ≤ c ∧ c ≤ 57) ∨ (hex = true ∧ 97 ≤ lc ∧ lc ≤ 102) then some ⟨k + 1, 48⟩ else if c = 95 then (if saw = 48 then some ⟨k + 1, 95⟩ else none) else if saw = 95 then none else some ⟨k + 1, 33⟩ := by
  unfold usStep
  rw [if_pos hk]
  dsimp only
  rw [hc, hl]
theorem us_out {hex : Bool} {s : ByteArray} {k : Nat} {saw : Int} (hk : ¬ k < s.size) : usStep hex s ⟨k, saw⟩ = none := by
  unfold usStep
  rw [if_neg hk]
/-- Behind the sign; the base prefix. -/
def usCut (s : ByteArray) : Bool := decide (1 ≤ s.size ∧ (byt s 0 = 45 ∨ byt s 0 = 43))
def usT (s : ByteArray) : ByteArray := if usCut s = true then s.extract 1 s.size else s
def usPre (t : ByteArray) : Bool := decide ((2 ≤ t.size ∧ byt t 0 = 48) ∧ (low (byt t 1) = 98 ∨ low (byt t 1) = 111 ∨ low (byt t 1) = 120))
def usHex (t : ByteArray) : Bool := usPre t && (low (byt t 1) == 120)
def usFin (t : ByteArray) : US := runL (usStep (usHex t) t) t.size (if usPre t = true then ⟨2, 48⟩ else ⟨0, 94⟩)
def uOK (s : ByteArray) : Bool := if (usFin (usT s)).i < (usT s).size then false else (usFin (usT s)).saw != 95
set_option maxHeartbeats 1000000 in
theorem under_any (s : ByteArray) (hs : (s.size : Int) ≤ 1000000) (w : World) :
    Calls Tryz.prog 215 #[.string s] w fun e w' => e = .returned (.bool (uOK s)) ∧ w' = w := by
  have hlow := fun c w => Tryz.internal_strconv_lower c w
  have HLow := Lib.hid hlow
  have hT : ((usT s).size : Int) ≤ 1000000 := by
    unfold usT
    split
    · rw [ByteArray.size_extract]; omega
    · exact hs
  have hR : Hid (uOK s = if (usFin (usT s)).i < (usT s).size then false else (usFin (usT s)).saw != 95) := Lib.hid rfl
  obtain ⟨R, hRR⟩ : ∃ r, r = uOK s := ⟨_, rfl⟩
  rw [← hRR] at hR ⊢
  have hfin : Hid (usFin (usT s) = runL (usStep (usHex (usT s)) (usT s)) (usT s).size (if usPre (usT s) = true then ⟨2, 48⟩ else ⟨0, 94⟩)) := Lib.hid rfl
  have HTs : Hid (usT s = if usCut s = true then s.extract 1 s.size else s) := Lib.hid rfl
  clear hlow hRR
  obtain ⟨B0, hB0⟩ : ∃ b, b = usCut s := ⟨_, rfl⟩
  rw [← hB0] at HTs
  have HB0 := Lib.hid hB0
  clear hB0
  have HB := Lib.hid (fun k (h : k < s.size) => byt_at h)
  generalize usT s = T at hT hR hfin HTs
  obtain ⟨Q, hQ⟩ : ∃ Q : Ending → World → Prop, Q = fun e w' => e = .returned (.bool R) ∧ w' = w := ⟨_, rfl⟩
  rw [← hQ]
  have HQ := Lib.hid hQ
  clear hQ
  go_enter Tryz.func215, Tryz.ntmps215
  go_upto_region 3 with fail
  go_cut [18] from 6 to 17 (fun b wr => w = wr ∧ b = .bool B0)
  case first =>
    by_cases h1 : 1 ≤ s.size
    · have e0 := HB.out 0 (by omega)
      have e1 : (1 : Int) ≤ s.size := by omega
      obtain ⟨c0, hc0⟩ : ∃ c, byt s 0 = c := ⟨_, rfl⟩
      rw [hc0] at e0
      by_cases h45 : c0 = 45
      · obtain rfl : B0 = true := by rw [HB0.out]; unfold usCut; rw [hc0]; simp [h1, h45]
        subst h45
        clear hc0
        go_wp2_with fail
        go_meet
        exact ⟨rfl, rfl⟩
      · have h45b : (c0 == 45) = false := by simpa using h45
        by_cases h43 : c0 = 43
        · obtain rfl : B0 = true := by rw [HB0.out]; unfold usCut; rw [hc0]; simp [h1, h43]
          subst h43
          clear hc0
          go_wp2_with fail
          go_meet
          exact ⟨rfl, rfl⟩
        · have h43b : (c0 == 43) = false := by simpa using h43
          obtain rfl : B0 = false := by rw [HB0.out]; unfold usCut; rw [hc0]; simp [h43, h45]
          clear hc0
          go_wp2_with fail
          go_meet
          exact ⟨rfl, rfl⟩
    · obtain rfl : B0 = false := by rw [HB0.out]; unfold usCut; simp; omega
      have e1 : (s.size : Int) < 1 := by omega
      go_wp2_with fail
      go_meet
      exact ⟨rfl, rfl⟩
  case rest =>
    obtain ⟨rfl, rfl⟩ := hcut
    go_upto_if 18 with fail
    go_cut [0] from 19 to 20 (fun t wr => w = wr ∧ t = .string T)
    case first =>
      have ht := HTs.out
      cases B0
      · obtain rfl : T = s := ht
        go_wp2_with fail
        go_meet
        exact ⟨rfl, rfl⟩
      · have h1 : 1 ≤ s.size := by
          have h := HB0.out
          unfold usCut at h
          exact (of_decide_eq_true h.symm).1
        have h1b : (1 : Int) ≤ s.size := by omega
        obtain rfl : T = s.extract 1 s.size := ht
        go_wp2_with fail
        go_meet
        exact ⟨rfl, rfl⟩
    case rest =>
      obtain ⟨rfl, rfl⟩ := hcut
      clear HTs HB
      have HBT := Lib.hid (fun k (h : k < T.size) => byt_at h)
      obtain ⟨PR, hPR⟩ : ∃ b, b = usPre T := ⟨_, rfl⟩
      obtain ⟨HXX, hHX⟩ : ∃ b, b = usHex T := ⟨_, rfl⟩
      rw [← hPR, ← hHX] at hfin
      have HPR := Lib.hid hPR
      have HHX := Lib.hid hHX
      clear hPR hHX
      go_upto_region 6 with fail
      go_cut [46] from 21 to 45 (fun b wr => w = wr ∧ b = .bool PR)
      case first =>
        by_cases h1 : 2 ≤ T.size
        · have e0 := HBT.out 0 (by omega)
          have e1 := HBT.out 1 (by omega)
          have e2 : (2 : Int) ≤ T.size := by omega
          obtain ⟨c0, hc0⟩ : ∃ c, byt T 0 = c := ⟨_, rfl⟩
          obtain ⟨c1, hc1⟩ : ∃ c, byt T 1 = c := ⟨_, rfl⟩
          rw [hc0] at e0
          rw [hc1] at e1
          obtain ⟨l1, hl1⟩ : ∃ x, low c1 = x := ⟨_, rfl⟩
          have hL := fun w => HLow.out c1 w
          rw [show bits .or .u8 c1 32 = l1 from hl1] at hL
          have HL := Lib.hid hL
          have HP2 : Hid (PR = decide ((2 ≤ T.size ∧ c0 = 48) ∧ (l1 = 98 ∨ l1 = 111 ∨ l1 = 120))) := Lib.hid (by rw [HPR.out]; unfold usPre; rw [hc0, hc1, hl1])
          clear hc0 hc1 hl1 hL
          by_cases h48 : c0 = 48
          · subst h48
            by_cases h98 : l1 = 98
            · obtain rfl : PR = true := by rw [HP2.out]; simp [h1, h98]
              subst h98
              go_wp2_with (go_at_call 214; refine (HL.out _).mono ?_; rintro r w1 ⟨rfl, rfl⟩)
              go_meet
              exact ⟨rfl, rfl⟩
            · have b98 : (l1 == 98) = false := by simpa using h98
              by_cases h111 : l1 = 111
              · obtain rfl : PR = true := by rw [HP2.out]; simp [h1, h111]
                subst h111
                go_wp2_with (go_at_call 214; refine (HL.out _).mono ?_; rintro r w1 ⟨rfl, rfl⟩)
                go_meet
                exact ⟨rfl, rfl⟩
              · have b111 : (l1 == 111) = false := by simpa using h111
                by_cases h120 : l1 = 120
                · obtain rfl : PR = true := by rw [HP2.out]; simp [h1, h120]
                  subst h120
                  go_wp2_with (go_at_call 214; refine (HL.out _).mono ?_; rintro r w1 ⟨rfl, rfl⟩)
                  go_meet
                  exact ⟨rfl, rfl⟩
                · have b120 : (l1 == 120) = false := by simpa using h120
                  obtain rfl : PR = false := by rw [HP2.out]; simp [h98, h111, h120]
                  go_wp2_with (go_at_call 214; refine (HL.out _).mono ?_; rintro r w1 ⟨rfl, rfl⟩)
                  go_meet
                  exact ⟨rfl, rfl⟩
          · have b48 : (c0 == 48) = false := by simpa using h48
            obtain rfl : PR = false := by rw [HP2.out]; simp [h48]
            go_wp2_with fail
            go_meet
            exact ⟨rfl, rfl⟩
        · obtain rfl : PR = false := by rw [HPR.out]; unfold usPre; simp; omega
          have e2 : (T.size : Int) < 2 := by omega
          go_wp2_with fail
          go_meet
          exact ⟨rfl, rfl⟩
      case rest =>
        obtain ⟨rfl, rfl⟩ := hcut
        obtain ⟨⟨i0, s0⟩, hst⟩ : ∃ x : US, x = (if PR = true then ⟨2, 48⟩ else ⟨0, 94⟩) := ⟨_, rfl⟩
        rw [← hst] at hfin
        have hi0 : i0 ≤ T.size := by
          cases PR
          · cases hst; omega
          · cases hst
            have h := HPR.out
            unfold usPre at h
            exact (of_decide_eq_true h.symm).1.1
        go_upto_if 46 with fail
        go_cut [3, 4, 5] from 47 to 50 (fun sw i hx wr => w = wr ∧ sw = .int .i32 s0 ∧ i = .int .i64 i0 ∧ hx = .bool HXX)
        case first =>
          cases PR
          · cases hst
            obtain rfl : HXX = false := by rw [HHX.out]; unfold usHex; rw [← HPR.out]; rfl
            go_wp2_with fail
            go_meet
            exact ⟨rfl, rfl, rfl, rfl⟩
          · cases hst
            have e1 := HBT.out 1 (by omega)
            have e2 : (2 : Int) ≤ T.size := by omega
            have hL := fun w => HLow.out (byt T 1) w
            have hHH : HXX = (low (byt T 1) == 120) := by rw [HHX.out]; unfold usHex; rw [← HPR.out]; rfl
            unfold low at hHH
            generalize bits .or .u8 (byt T 1) 32 = l1 at hL hHH
            have HL := Lib.hid hL
            obtain rfl := hHH
            clear hL
            go_wp2_with (go_at_call 214; refine (HL.out _).mono ?_; rintro r w1 ⟨rfl, rfl⟩)
            go_meet
            exact ⟨rfl, rfl, rfl, rfl⟩
        case rest =>
          obtain ⟨rfl, rfl, rfl, rfl⟩ := hcut
          clear hst
          obtain ⟨hE, hI, hN⟩ := runL_ends (step := usStep HXX T) (USI T) (fun x => T.size - x.i) (us_keep HXX T) T.size ⟨i0, s0⟩ (Nat.sub_le _ _) ⟨hi0⟩
          have hf := hfin.out
          generalize runL (usStep HXX T) T.size ⟨i0, s0⟩ = z at hE hI hN hf
          obtain ⟨zi, zs⟩ := z
          have HRR : Hid (R = if zi < T.size then false else zs != 95) := Lib.hid (by rw [hR.out, hf])
          have HE := Lib.hid hE
          clear hE hI hN hf hfin
          go_upto_block 0 with fail
          go_wp2_with fail
          go_loop [3, 4] (fun sw i => ∃ x : US, USI T x ∧ Ends (usStep HXX T) x ⟨zi, zs⟩ ∧ sw = .int .i32 x.saw ∧ i = .int .i64 x.i) (fun _ i => T.size - (intOf i).toNat)
          case atStart => exact ⟨⟨i0, s0⟩, ⟨hi0⟩, HE.out, rfl, rfl⟩
          case round =>
            obtain ⟨⟨k, saw⟩, hI, hEx, rfl, rfl⟩ := hrel
            have HIx := Lib.hid hI
            have HEx := Lib.hid hEx
            have a1 : k ≤ T.size := hI.i
            clear hI hEx
            by_cases hk : k < T.size
            · have hbk := HBT.out k hk
              have hc := byt_in T k
              have hk2 : (k : Int) < T.size := by omega
              obtain ⟨c, hcc⟩ : ∃ c, byt T k = c := ⟨_, rfl⟩
              rw [hcc] at hbk hc
              have HC := Lib.hid hcc
              have hlc := low_in c
              have hL := fun w => HLow.out c w
              obtain ⟨lc, hlc2⟩ : ∃ x, low c = x := ⟨_, rfl⟩
              rw [hlc2] at hlc
              unfold low at hlc2
              rw [hlc2] at hL
              have HLC := Lib.hid hlc2
              have HL := Lib.hid hL
              clear hcc hlc2 hL
              cases HXX
              all_goals
                go_wp2_with (go_at_call 214; refine (HL.out _).mono ?_; rintro r w1 ⟨rfl, rfl⟩)
                all_goals (try simp only [beq_iff_eq, beq_eq_false_iff_ne, bne_iff_ne, bne_eq_false_iff_eq, ne_eq] at *)
                all_goals first
                  | (exfalso; omega)
                  | (refine ⟨⟨⟨k + 1, _⟩, ⟨hk⟩, HEx.out.next ?_, rfl, by simp⟩, by simp [intOf]; omega⟩
                     all_goals
                       rw [us_at hk c HC.out lc HLC.out]
                       simp only [Bool.false_eq_true, true_and, false_and, or_false]
                       (repeat' first | rw [if_pos (by omega)] | rw [if_neg (by omega)])
                       try rfl)
                  | (rw [HQ.out]
                     have hz := Ends.done HEx.out (by
                       rw [us_at hk c HC.out lc HLC.out]
                       simp only [Bool.false_eq_true, true_and, false_and, or_false]
                       (repeat' first | rw [if_pos (by omega)] | rw [if_neg (by omega)]))
                     cases hz
                     refine ⟨?_, rfl⟩
                     rw [HRR.out, if_pos hk]
                     try rfl)
            · have hz := HEx.out.done (us_out hk)
              cases hz
              go_wp2_with fail
              rw [HQ.out]
              refine ⟨?_, rfl⟩
              rw [HRR.out, if_neg hk]
theorem under_uOK : Under uOK := fun t ht w => under_any t ht w
end Go.Proofs.YtnggkkdcddpjlaaGreatDoor
namespace Go.Proofs.YtnggkkdcddpjlaaGreatDoor
open Go.RowKit
set_option maxRecDepth 100000
set_option linter.unusedVariables false
set_option linter.unusedSimpArgs false
structure RXI (s : ByteArray) (x : RX) : Prop where
  n : x.n ≤ s.size
  d0 : -5000000 ≤ x.dp
  d1 : x.dp ≤ 5000000
theorem rxJ_le (s : ByteArray) (i : Nat) (h : i + 1 < s.size) : rxJ s i ≤ s.size := by
  unfold rxJ
  split <;> (try split) <;> omega
theorem rx_in (hex : Bool) (s : ByteArray) (i : Nat) (hi : i ≤ s.size) (dp : Int) (us : Bool) (h0 : -4000000 ≤ dp) (h1 : dp ≤ 4000000) : RXI s (rfExp hex s i dp us) := by
  unfold rfExp
  generalize (if hex = true then (112 : Int) else 101) = ec
  split
  · split
    · rename_i h2
      have hj := rxJ_le s i h2
      have hb : rxJ s i ≤ s.size := hj
      obtain ⟨_, hI, _⟩ := runL_ends (step := reStep s) (REI s) (fun x => s.size - x.k) (re_keep s) s.size ⟨rxJ s i, 0, us⟩ (Nat.sub_le _ _) ⟨hb, by show (0 : Int) ≤ 0; omega, by show (0 : Int) ≤ 100000; omega⟩
      obtain ⟨a1, a2, a3⟩ := hI
      generalize runL (reStep s) s.size ⟨rxJ s i, 0, us⟩ = z at a1 a2 a3 ⊢
      split
      · refine ⟨a1, ?_, ?_⟩
        · dsimp only
          split <;> omega
        · dsimp only
          split <;> omega
      · exact ⟨hb, by dsimp only; omega, by dsimp only; omega⟩
    · exact ⟨by dsimp only; omega, by dsimp only; omega, by dsimp only; omega⟩
  · exact ⟨hi, by dsimp only; omega, by dsimp only; omega⟩
structure ROI (s : ByteArray) (x : RO) : Prop where
  m0 : 0 ≤ x.m
  m1 : x.m < 18446744073709551616
  p0 : -6000000 ≤ x.p
  p1 : x.p ≤ 6000000
  n : x.n ≤ s.size
theorem ro_in (hex : Bool) (U : ByteArray → Bool) (s : ByteArray) (hs : (s.size : Int) ≤ 1000000) (x : RF) (h : RFI s x) : ROI s (rfFin hex U s x) := by
  obtain ⟨a1, a2, a3, a4, a5, a6, a7, a8, a9⟩ := h
  have hD : -4000000 ≤ ((if hex = true then 4 else 1) * (if x.sd = true then x.dp else x.nd) : Int) ∧ ((if hex = true then 4 else 1) * (if x.sd = true then x.dp else x.nd) : Int) ≤ 4000000 := by
    split <;> split <;> omega
  obtain ⟨b1, b2, b3⟩ := rx_in hex s x.i a1 ((if hex = true then 4 else 1) * (if x.sd = true then x.dp else x.nd)) x.us hD.1 hD.2
  have hN : 0 ≤ ((if hex = true then 4 else 1) * x.nm : Int) ∧ ((if hex = true then 4 else 1) * x.nm : Int) ≤ 80 := by
    split <;> omega
  unfold rfFin
  generalize ((if hex = true then 4 else 1) * x.nm : Int) = N at hN ⊢
  generalize rfExp hex s x.i ((if hex = true then 4 else 1) * (if x.sd = true then x.dp else x.nd)) x.us = X at b1 b2 b3 ⊢
  split
  · split
    · refine ⟨a2, a3, ?_, ?_, b1⟩ <;> (dsimp only; split <;> omega)
    · exact ⟨a2, a3, by dsimp only; omega, by dsimp only; omega, b1⟩
  · exact ⟨a2, a3, by dsimp only; omega, by dsimp only; omega, a1⟩
theorem rf_empty (s : ByteArray) (h0 : s.size = 0) (w : World) : Calls Tryz.prog 240 #[.string s] w fun e w' => e = .returned (rfVal false false ⟨0, 0, false, 0, false⟩) ∧ w' = w := by
  have hs : s = ByteArray.empty := by
    obtain ⟨⟨l⟩⟩ := s
    have : l = [] := List.eq_nil_of_length_eq_zero h0
    rw [this]
    rfl
  have h1 : (s.size : Int) = 0 := by omega
  subst hs
  go_enter Tryz.func240, Tryz.ntmps240
  go_wp2_with fail
  go_step3
  go_wp2_with fail
  (try rw [Exit.noGoto_ret])
  refine bodyPost_ret (v := rfVal false false ⟨0, 0, false, 0, false⟩) ?_ rfl ⟨rfl, rfl⟩
  simp [results, Tryz.results240, go_sem, rfVal]
/-- readFloat. -/
theorem readFloat_any (s : ByteArray) (hs : (s.size : Int) ≤ 1000000) : ∃ (r : RO) (ng hx : Bool), ROI s r ∧ ∀ w, Calls Tryz.prog 240 #[.string s] w fun e w' => e = .returned (rfVal ng hx r) ∧ w' = w := by
  by_cases h0 : s.size = 0
  · exact ⟨_, _, _, ⟨by decide, by decide, by decide, by decide, Nat.zero_le _⟩, fun w => rf_empty s h0 w⟩
  · have h1 : 0 < s.size := by omega
    have hi : rfI1 s ≤ 1 := by unfold rfI1; split <;> (try split) <;> omega
    cases hx : rfHex s with
    | false =>
      refine ⟨_, _, _, ?_, fun w => rf_dec uOK under_uOK s hs h1 hx w⟩
      refine ro_in false uOK s hs _ (runL_ends (step := rfStep false 10 19 s) (RFI s) (fun x => s.size - x.i) (rf_keep false 10 19 (by omega) s) s.size (rfStart (rfI1 s)) (Nat.sub_le _ _) ?_).2.1
      refine ⟨?_, ?_, ?_, ?_, ?_, ?_, ?_, ?_, ?_⟩ <;> simp [rfStart] <;> omega
    | true =>
      have h3 : rfI1 s + 2 < s.size := by
        have h := hx
        unfold rfHex at h
        exact (of_decide_eq_true h).1.1
      refine ⟨_, _, _, ?_, fun w => rf_hex uOK under_uOK s hs h1 hx w⟩
      refine ro_in true uOK s hs _ (runL_ends (step := rfStep true 16 16 s) (RFI s) (fun x => s.size - x.i) (rf_keep true 16 16 (by omega) s) s.size (rfStart (rfI1 s + 2)) (Nat.sub_le _ _) ?_).2.1
      refine ⟨?_, ?_, ?_, ?_, ?_, ?_, ?_, ?_, ?_⟩ <;> simp [rfStart] <;> omega
end Go.Proofs.YtnggkkdcddpjlaaGreatDoor
