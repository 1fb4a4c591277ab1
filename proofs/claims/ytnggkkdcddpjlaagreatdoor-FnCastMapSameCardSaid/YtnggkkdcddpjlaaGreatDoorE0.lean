/- strconv.FormatUint at base 10: total, and its text hangs on the number alone. -/
import Derived.Test.YtnggkkdcddpjlaaGreatDoorD3
import Derived.Lib.AppendIntMem
namespace Go.Proofs.YtnggkkdcddpjlaaGreatDoor
open Go.RowKit Go.Lib Go.Sort
set_option maxRecDepth 100000
set_option linter.unusedVariables false
theorem ifmtu_small (i : Nat) (hi : i < 100) (w : World) :
    Calls Tryz.prog 142 #[.int .u64 i, .int .i64 10] w fun e w' => e = .returned (.string ⟨(Lib.decDigits i).toArray⟩) ∧ Below w.heap.size w w' := by
  go_enter Tryz.func142, Tryz.ntmps142
  go_wp2_with (go_at_call 178; refine (Tryz.internal_strconv_small i hi _).mono ?_; rintro e w' ⟨rfl, rfl⟩)
  go_ret
  exact ⟨rfl, Below.refl _ _⟩
theorem ifmtu_big (u : Nat) (hu1 : 100 ≤ u) (hu64 : u < 18446744073709551616) (w : World) (hg : Good w) :
    Calls Tryz.prog 142 #[.int .u64 u, .int .i64 10] w fun e w' => e = .returned (.string ⟨(Lib.decDigits u).toArray⟩) ∧ Below w.heap.size w w' := by
  have hu0 : 1 ≤ u := by omega
  have hnd20 : Lib.nDigits u ≤ 20 := nDigits_le20 u hu64
  have hb3 : Lib.nDigits u ≤ 24 := by omega
  have hal : Tryz.prog.arrayLen 264 = 24 := by kernel_rfl
  have hsl : ∀ W, (Instr.sliceAt 264 (.pointer (some ⟨w.heap.size, 0, none⟩)) none (some (.int .i64 (Lib.nDigits u : Int))) none).run Tryz.prog W = .ok (.slice (some ⟨w.heap.size, 0, none⟩) (Lib.nDigits u) 24) W := fun W => by
    rw [run_sliceAt_array_h W 264 ⟨w.heap.size, 0, none⟩ (by kernel_rfl) .i64 (Lib.nDigits u : Int) (by omega) (by rw [hal]; omega)]
    rw [hal]
    rfl
  have hH0 := Lib.holds_zero0 w 264 (Lib.nDigits u) (by omega)
  have hfmt := Tryz.internal_strconv_formatBase10 w.heap.size 0 24 u (Array.replicate (Lib.nDigits u) 0) (w.alloc (.cells Lib.zeros24 264)) hH0 (by rw [Array.size_replicate]; exact Lib.lt_pow_nDigits u) hu64 (by rw [Array.size_replicate]; omega)
  rw [Array.size_replicate] at hfmt
  have hnum := fun w ht => Tryz.internal_strconv_numDigits u hu0 hu64 w ht
  have HH0 := Lib.hid hH0
  have HT := Lib.hid hg.tab
  have HF := Lib.hid hfmt
  have HN := Lib.hid hnum
  have HHG : Hid (¬ (u : Int) < 100) := Lib.hid (by omega)
  have h100 : decide ((u : Int) < 100) = false := by simp; omega
  obtain ⟨L, hL⟩ : ∃ L, L = Lib.decDigits u := ⟨_, rfl⟩
  rw [← hL]
  have HL := Lib.hid hL
  clear hH0 hal hg hfmt hnum hL
  go_enter Tryz.func142, Tryz.ntmps142
  go_wp2_with (first
    | (go_at_call 179; refine (HN.out _ (Lib.tabIs_alloc HT.out _)).mono ?_; rintro e w' ⟨rfl, rfl⟩)
    | (go_at_call 180; refine HF.out.mono ?_; rintro e w' ⟨rfl, k, v', dk, rfl, hF⟩; have HFF := Lib.hid hF; clear hF; refine Hid.out ?_))
  have hcv : (convert 130 9 (.slice (some ⟨w.heap.size, 0, none⟩) (Lib.nDigits u) 24)).run Tryz.prog ((putRow (fun (b : UInt8) => Value.int .u8 (b.toNat : Int)) (w.alloc (.cells Lib.zeros24 264)) w.heap.size 0 dk).drewN k) = .ok (.string ⟨L.toArray⟩) ((putRow (fun (b : UInt8) => Value.int .u8 (b.toNat : Int)) (w.alloc (.cells Lib.zeros24 264)) w.heap.size 0 dk).drewN k) := by
    have h := run_convert_bytes_back (P := Tryz.prog) ((putRow (fun (b : UInt8) => Value.int .u8 (b.toNat : Int)) (w.alloc (.cells Lib.zeros24 264)) w.heap.size 0 dk).drewN k) 130 9 5 ⟨w.heap.size, 0, none⟩ 24 (Lib.decDigits u) Tryz.underlying130 Tryz.underlying5 Tryz.underlying9 (fun j hj => by
      rw [Lib.row_is_numeral HFF.out j hj, Lib.add_plain, World.cell?_drewN]
      exact cell?_putRow (fun (b : UInt8) => Value.int .u8 (b.toNat : Int)) _ w.heap.size 0 _ dk HH0.out (by rw [HFF.out.size, Array.size_replicate]) j (by rw [HFF.out.size]; rw [Lib.decDigits_length] at hj; exact hj))
    rw [Lib.decDigits_length] at h
    rw [HL.out]
    exact h
  refine Lib.hid ?_
  go_wp2
  go_ret
  refine ⟨rfl, ?_⟩
  obtain ⟨os, eo⟩ := Lib.fin_at w (.cells Lib.zeros24 264) dk k 0
  rw [eo]
  exact below_grow w k os
theorem fmtu (u : Int) (h0 : 0 ≤ u) (h1 : u < 18446744073709551616) (w : World) (hg : Good w) :
    Calls Tryz.prog 104 #[.int .u64 u, .int .i64 10] w fun e w' => e = .returned (.string ⟨(Lib.decDigits u.toNat).toArray⟩) ∧ Below w.heap.size w w' := by
  have H : Calls Tryz.prog 142 #[.int .u64 u, .int .i64 10] w fun e w' => e = .returned (.string ⟨(Lib.decDigits u.toNat).toArray⟩) ∧ Below w.heap.size w w' := by
    obtain ⟨n, rfl⟩ := Int.eq_ofNat_of_zero_le h0
    rcases (by omega : n < 100 ∨ 100 ≤ n) with h | h
    · exact ifmtu_small n h w
    · exact ifmtu_big n h (by omega) w hg
  obtain ⟨L, hL⟩ : ∃ L, L = Lib.decDigits u.toNat := ⟨_, rfl⟩
  rw [← hL] at H ⊢
  clear hL
  have H := Lib.hid H
  go_enter Tryz.func104, Tryz.ntmps104
  go_wp2_with (go_at_call 142; refine H.out.mono ?_; rintro e w' ⟨rfl, hb⟩)
  go_ret
  exact ⟨rfl, hb⟩
end Go.Proofs.YtnggkkdcddpjlaaGreatDoor
