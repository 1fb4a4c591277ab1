/- internal/strconv's numDigits at nought, and setDigits. -/
import Derived.Test.YtnggkkdcddpjlaaGreatDoorZ10
import Derived.Lib.ItoaLen
namespace Go.Proofs.YtnggkkdcddpjlaaGreatDoor
open Go.RowKit Go.Lib Go.Sort
set_option maxRecDepth 100000
set_option linter.unusedVariables false
theorem num_zero (w : World) (hg : Good w) : Calls Tryz.prog 179 #[.int .u64 0] w fun e w' => e = .returned (.int .i64 0) ∧ w' = w := by
  have ht := (Lib.TabIs.cell hg.tab gPow 0 (by decide))
  have hL : Lib.bitLen (0 : Int).toNat = 0 := by decide
  have h1 := fun w => Tryz.bits_Len64 0 w (by omega) (by omega)
  rw [hL] at h1
  have h2 := fun w => l10_run 0 (by omega) (by omega) w
  have hb := fun w => Tryz.internal_strconv_bool2_int false w
  have H1 := Lib.hid h1
  have H2 := Lib.hid h2
  have HB := Lib.hid hb
  clear h1 h2 hb hL
  go_enter Tryz.func179, Tryz.ntmps179
  go_wp2_with (first | (go_at_call 201; refine (H1.out _).mono ?_; rintro r w1 ⟨rfl, rfl⟩) | (go_at_call 204; refine (H2.out _).mono ?_; rintro r w1 ⟨rfl, rfl⟩) | (go_at_call 210; refine (HB.out _).mono ?_; rintro r w1 ⟨rfl, rfl⟩))
  go_ret
  exact ⟨rfl, rfl⟩
/-- The number of digits as the code counts them. -/
def nd0 (u : Nat) : Nat := if u = 0 then 0 else nDigits u
theorem nd0_le (u : Nat) (h : u < 18446744073709551616) : nd0 u ≤ 20 := by
  unfold nd0
  split
  · omega
  · exact nDigits_le20 u h
/-- How many digits stay when the noughts at the end go. -/
def trimD (u nd : Nat) : Nat → Nat
  | 0 => 0
  | k + 1 => if dg u (nd - 1 - k) = 48 then trimD u nd k else k + 1
theorem trimD_le (u nd : Nat) : ∀ k, trimD u nd k ≤ k
  | 0 => Nat.le_refl _
  | k + 1 => by unfold trimD; have := trimD_le u nd k; split <;> omega
theorem set_digits (u nd : Nat) (p : Int) (hp0 : -400 ≤ p) (hp1 : p ≤ 400) (hu : u < 10 ^ nd) (hu64 : u < 18446744073709551616) (hnd : nd ≤ 20) (b : Nat) (w : World)
    (hz : ∀ j, j < 32 → w.cell? ⟨b, j, none⟩ = some (.int .u8 0) ∧ w.frozen? ⟨b, j, none⟩ = false) :
    Calls Tryz.prog 203 #[.slice (some ⟨b, 0, none⟩) 32 32, .int .u64 u, .int .i64 p, .int .i64 nd] w fun r w' => r = .returned (.tuple #[.int .i64 (nd + p), .int .i64 (trimD u nd nd)]) ∧ Below b w w' ∧
      ∀ t, t < nd → w'.cell? ⟨b, t, none⟩ = some (.int .u8 (dg u (nd - 1 - t)).toNat) := by
  obtain ⟨d0, hd0⟩ : ∃ d0 : Array UInt8, d0 = Array.replicate nd 0 := ⟨_, rfl⟩
  have hsz : d0.size = nd := by rw [hd0]; simp
  have hH : Holds (fun (b : UInt8) => Value.int .u8 (b.toNat : Int)) w b 0 d0 := fun j hj => by
    rw [hsz] at hj
    have h1 := hz j (by omega)
    refine ⟨?_, by simpa using h1.2⟩
    rw [hd0, getElem!_pos _ j (by simpa using hj)]
    simpa using h1.1
  have hF := fun w (hH : Holds (fun (b : UInt8) => Value.int .u8 (b.toNat : Int)) w b 0 d0) => Tryz.internal_strconv_formatBase10 b 0 32 u d0 w hH (by rw [hsz]; exact hu) hu64 (by rw [hsz]; omega)
  rw [hsz] at hF
  have HF := Lib.hid hF
  have HH := Lib.hid hH
  clear hF hH hd0 hu hu64
  have hn1 : (nd : Int) ≤ 32 := by omega
  have hn0 : (0 : Int) ≤ (nd : Int) := by omega
  obtain ⟨N, hN⟩ : ∃ N, N = trimD u nd nd := ⟨_, rfl⟩
  rw [← hN]
  have HN := Lib.hid hN
  clear hN
  go_enter Tryz.func203, Tryz.ntmps203
  go_wp2_with (go_at_call 180; refine (HF.out _ HH.out).mono ?_; rintro r w1 ⟨rfl, nn, v', dk, hw1, hinv⟩; have HW1 := Lib.hid hw1; clear hw1)
  have hc : ∀ t, t < nd → w1.cell? ⟨b, t, none⟩ = some (.int .u8 (dg u (nd - 1 - t)).toNat) := fun t ht => by
    have h1 := cell?_putRow (fun (b : UInt8) => Value.int .u8 (b.toNat : Int)) w b 0 d0 dk HH.out (by rw [hinv.size, hsz]) t (by rw [hinv.size]; exact ht)
    rw [Nat.zero_add, hinv.done t (Nat.zero_le _) ht] at h1
    rw [HW1.out]
    exact h1
  have hb1 : Below b w w1 := by
    rw [HW1.out]
    refine ⟨rfl, rfl, rfl, ?_, fun k hk => ?_⟩
    · show w.heap.size ≤ (putRow (fun (b : UInt8) => Value.int .u8 (b.toNat : Int)) w b 0 dk).heap.size
      rw [size_putRow]
      exact Nat.le_refl _
    · show (putRow (fun (b : UInt8) => Value.int .u8 (b.toNat : Int)) w b 0 dk).heap[k]? = _
      unfold putRow mapBlock
      rw [Array.getElem?_modify, if_neg (by omega)]
  have HC := Lib.hid hc
  have HB := Lib.hid hb1
  clear hc hb1 HW1 hinv HH HF hz
  go_loopw [3] (fun i wr => ∃ k : Nat, k ≤ nd ∧ i = .int .i64 k ∧ wr = w1 ∧ N = trimD u nd k) (fun i _ => (RowKit.intOf i).toNat)
  case atStart => exact ⟨nd, Nat.le_refl _, rfl, rfl, HN.out⟩
  case round =>
    obtain ⟨k, hk, rfl, rfl, hkN⟩ := hrel
    have HK := Lib.hid hkN
    clear hkN
    cases k with
    | zero =>
      go_wp2
      go_ret2
      exact ⟨by rw [HK.out]; rfl, HB.out, HC.out⟩
    | succ k =>
      have hck := HC.out k (by omega)
      have h0 : (0 : Int) ≤ (k : Int) := by omega
      have h1 : (k : Int) < 32 := by omega
      obtain ⟨x, hx⟩ : ∃ x : Int, x = ((dg u (nd - 1 - k)).toNat : Int) := ⟨_, rfl⟩
      rw [← hx] at hck
      have HX := Lib.hid hx
      clear hx
      by_cases h48 : x = 48
      · have hb48 : (x == 48) = true := by simpa using h48
        have HT : Hid (N = trimD u nd k) := Lib.hid (by
          rw [HK.out]
          show (if dg u (nd - 1 - k) = 48 then trimD u nd k else k + 1) = _
          rw [if_pos]
          apply UInt8.toNat_inj.1
          have h2 := HX.out
          show (dg u (nd - 1 - k)).toNat = 48
          omega)
        clear h48
        go_wp2
        all_goals exact ⟨⟨k, by omega, rfl, trivial, HT.out⟩, by simp [RowKit.intOf]⟩
      · have hb48 : (x == 48) = false := by simpa using h48
        have HT : Hid (N = k + 1) := Lib.hid (by
          rw [HK.out]
          show (if dg u (nd - 1 - k) = 48 then trimD u nd k else k + 1) = _
          rw [if_neg]
          intro h2
          have h3 := HX.out
          rw [h2] at h3
          exact h48 h3)
        clear h48
        go_wp2
        go_ret2
        exact ⟨by rw [HT.out]; rfl, HB.out, HC.out⟩
end Go.Proofs.YtnggkkdcddpjlaaGreatDoor
