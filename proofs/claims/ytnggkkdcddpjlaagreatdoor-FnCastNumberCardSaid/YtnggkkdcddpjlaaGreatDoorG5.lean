/- internal/strconv.readFloat: total, and what it answers hangs on the text alone. -/
import Derived.Test.YtnggkkdcddpjlaaGreatDoorG2
import Derived.Test.YtnggkkdcddpjlaaGreatDoorG3
import Derived.Test.YtnggkkdcddpjlaaGreatDoorG4
namespace Go.Proofs.YtnggkkdcddpjlaaGreatDoor
open Go.RowKit
set_option maxRecDepth 100000
set_option linter.unusedVariables false
set_option linter.unusedSimpArgs false
structure RXI (s : ByteArray) (x : RX) : Prop where
  n : x.n ≤ s.size
  d0 : -5000000 ≤ x.dp
  d1 : x.dp ≤ 5000000
theorem rxJ_le (s : ByteArray) (i : Nat) (h : i + 1 < s.size) : rxJ s i ≤ s.size := by
  unfold rxJ
  split <;> (try split) <;> omega
theorem rx_in (hex : Bool) (s : ByteArray) (i : Nat) (hi : i ≤ s.size) (dp : Int) (us : Bool) (h0 : -4000000 ≤ dp) (h1 : dp ≤ 4000000) : RXI s (rfExp hex s i dp us) := by
  unfold rfExp
  generalize (if hex = true then (112 : Int) else 101) = ec
  split
  · split
    · rename_i h2
      have hj := rxJ_le s i h2
      have hb : rxJ s i ≤ s.size := hj
      obtain ⟨_, hI, _⟩ := runL_ends (step := reStep s) (REI s) (fun x => s.size - x.k) (re_keep s) s.size ⟨rxJ s i, 0, us⟩ (Nat.sub_le _ _) ⟨hb, by show (0 : Int) ≤ 0; omega, by show (0 : Int) ≤ 100000; omega⟩
      obtain ⟨a1, a2, a3⟩ := hI
      generalize runL (reStep s) s.size ⟨rxJ s i, 0, us⟩ = z at a1 a2 a3 ⊢
      split
      · refine ⟨a1, ?_, ?_⟩
        · dsimp only
          split <;> omega
        · dsimp only
          split <;> omega
      · exact ⟨hb, by dsimp only; omega, by dsimp only; omega⟩
    · exact ⟨by dsimp only; omega, by dsimp only; omega, by dsimp only; omega⟩
  · exact ⟨hi, by dsimp only; omega, by dsimp only; omega⟩
structure ROI (s : ByteArray) (x : RO) : Prop where
  m0 : 0 ≤ x.m
  m1 : x.m < 18446744073709551616
  p0 : -6000000 ≤ x.p
  p1 : x.p ≤ 6000000
  n : x.n ≤ s.size
theorem ro_in (hex : Bool) (U : ByteArray → Bool) (s : ByteArray) (hs : (s.size : Int) ≤ 1000000) (x : RF) (h : RFI s x) : ROI s (rfFin hex U s x) := by
  obtain ⟨a1, a2, a3, a4, a5, a6, a7, a8, a9⟩ := h
  have hD : -4000000 ≤ ((if hex = true then 4 else 1) * (if x.sd = true then x.dp else x.nd) : Int) ∧ ((if hex = true then 4 else 1) * (if x.sd = true then x.dp else x.nd) : Int) ≤ 4000000 := by
    split <;> split <;> omega
  obtain ⟨b1, b2, b3⟩ := rx_in hex s x.i a1 ((if hex = true then 4 else 1) * (if x.sd = true then x.dp else x.nd)) x.us hD.1 hD.2
  have hN : 0 ≤ ((if hex = true then 4 else 1) * x.nm : Int) ∧ ((if hex = true then 4 else 1) * x.nm : Int) ≤ 80 := by
    split <;> omega
  unfold rfFin
  generalize ((if hex = true then 4 else 1) * x.nm : Int) = N at hN ⊢
  generalize rfExp hex s x.i ((if hex = true then 4 else 1) * (if x.sd = true then x.dp else x.nd)) x.us = X at b1 b2 b3 ⊢
  split
  · split
    · refine ⟨a2, a3, ?_, ?_, b1⟩ <;> (dsimp only; split <;> omega)
    · exact ⟨a2, a3, by dsimp only; omega, by dsimp only; omega, b1⟩
  · exact ⟨a2, a3, by dsimp only; omega, by dsimp only; omega, a1⟩
theorem rf_empty (s : ByteArray) (h0 : s.size = 0) (w : World) : Calls Tryz.prog 240 #[.string s] w fun e w' => e = .returned (rfVal false false ⟨0, 0, false, 0, false⟩) ∧ w' = w := by
  have hs : s = ByteArray.empty := by
    obtain ⟨⟨l⟩⟩ := s
    have : l = [] := List.eq_nil_of_length_eq_zero h0
    rw [this]
    rfl
  have h1 : (s.size : Int) = 0 := by omega
  subst hs
  go_enter Tryz.func240, Tryz.ntmps240
  go_wp2_with fail
  go_step3
  go_wp2_with fail
  (try rw [Exit.noGoto_ret])
  refine bodyPost_ret (v := rfVal false false ⟨0, 0, false, 0, false⟩) ?_ rfl ⟨rfl, rfl⟩
  simp [results, Tryz.results240, go_sem, rfVal]
/-- readFloat. -/
theorem readFloat_any (s : ByteArray) (hs : (s.size : Int) ≤ 1000000) : ∃ (r : RO) (ng hx : Bool), ROI s r ∧ ∀ w, Calls Tryz.prog 240 #[.string s] w fun e w' => e = .returned (rfVal ng hx r) ∧ w' = w := by
  by_cases h0 : s.size = 0
  · exact ⟨_, _, _, ⟨by decide, by decide, by decide, by decide, Nat.zero_le _⟩, fun w => rf_empty s h0 w⟩
  · have h1 : 0 < s.size := by omega
    have hi : rfI1 s ≤ 1 := by unfold rfI1; split <;> (try split) <;> omega
    cases hx : rfHex s with
    | false =>
      refine ⟨_, _, _, ?_, fun w => rf_dec uOK under_uOK s hs h1 hx w⟩
      refine ro_in false uOK s hs _ (runL_ends (step := rfStep false 10 19 s) (RFI s) (fun x => s.size - x.i) (rf_keep false 10 19 (by omega) s) s.size (rfStart (rfI1 s)) (Nat.sub_le _ _) ?_).2.1
      refine ⟨?_, ?_, ?_, ?_, ?_, ?_, ?_, ?_, ?_⟩ <;> simp [rfStart] <;> omega
    | true =>
      have h3 : rfI1 s + 2 < s.size := by
        have h := hx
        unfold rfHex at h
        exact (of_decide_eq_true h).1.1
      refine ⟨_, _, _, ?_, fun w => rf_hex uOK under_uOK s hs h1 hx w⟩
      refine ro_in true uOK s hs _ (runL_ends (step := rfStep true 16 16 s) (RFI s) (fun x => s.size - x.i) (rf_keep true 16 16 (by omega) s) s.size (rfStart (rfI1 s + 2)) (Nat.sub_le _ _) ?_).2.1
      refine ⟨?_, ?_, ?_, ?_, ?_, ?_, ?_, ?_, ?_⟩ <;> simp [rfStart] <;> omega
end Go.Proofs.YtnggkkdcddpjlaaGreatDoor
