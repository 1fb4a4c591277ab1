/- strconv.ParseInt at base 0 over such digits, with a sign or none; cast's search for a point and its trimDecimal at texts without one. -/
import Derived.Test.YtnggkkdcddpjlaaGreatDoorT6
import Derived.Lib.IndexBytes
import Derived.Lib.AtoiErrMem
namespace Go.Proofs.YtnggkkdcddpjlaaGreatDoor
open Go.RowKit
set_option maxRecDepth 100000

theorem pu_zero (w : World) :
    Calls Tryz.prog 189 #[.string ⟨#[48]⟩, .int .i64 0, .int .i64 0] w fun e w' => e = .returned (.tuple #[.int .u64 0, .nilIface]) ∧ Below w.heap.size w w' := by
  have hcv := Lib.run_convert_string_bytes (P := Tryz.prog) w 9 130 5 ByteArray.empty (u := .string) Tryz.underlying9 Tryz.underlying130 Tryz.underlying5
  have hB := Lib.bytesWorld_below w 5 ByteArray.empty
  obtain ⟨W1, hW1⟩ : ∃ W1, W1 = Lib.bytesWorld w 5 ByteArray.empty := ⟨_, rfl⟩
  rw [← hW1] at hcv hB
  clear hW1
  have HB := Lib.hid hB
  clear hB
  go_enter Tryz.func189, Tryz.ntmps189
  go_wp2
  refine wp_loop_rounds 1 ?_
  rw [rounds_succ]
  go_wp2
  go_ret2
  exact ⟨rfl, HB.out⟩

theorem pi_pos (t : ByteArray) (hne : t.size ≠ 0) (N : Int) (hN0 : 0 ≤ N) (hN : N ≤ 9223372036854775807) (c0 : UInt8) (h0 : 0 < t.size) (hc0 : t[0] = c0) (h43 : ((c0.toNat : Int) == 43) = false) (h45 : ((c0.toNat : Int) == 45) = false)
    (hU : ∀ w, Calls Tryz.prog 189 #[.string t, .int .i64 0, .int .i64 0] w fun e w' => e = .returned (.tuple #[.int .u64 N, .nilIface]) ∧ Below w.heap.size w w') (w : World) :
    Calls Tryz.prog 186 #[.string t, .int .i64 0, .int .i64 0] w fun e w' => e = .returned (.tuple #[.int .i64 N, .nilIface]) ∧ Below w.heap.size w w' := by
  have hemp : t.toList.isEmpty = false := by
    rw [← decide_eq_emptyBytes]
    exact decide_eq_false (fun h => hne (by rw [h]; rfl))
  have HU := Lib.hid hU
  clear hne hU
  go_enter Tryz.func186, Tryz.ntmps186
  go_wp2_with (go_at_call 189; refine (HU.out _).mono ?_; rintro e w' ⟨rfl, hb⟩)
  go_ret2
  exact ⟨rfl, hb⟩

theorem pi_neg (t u : ByteArray) (hne : t.size ≠ 0) (N : Int) (hN0 : 0 ≤ N) (hN : N ≤ 9223372036854775808) (c0 : UInt8) (h0 : 0 < t.size) (hc0 : t[0] = c0) (h43 : ((c0.toNat : Int) == 43) = false) (h45 : ((c0.toNat : Int) == 45) = true) (hu : t.extract 1 t.size = u)
    (hU : ∀ w, Calls Tryz.prog 189 #[.string u, .int .i64 0, .int .i64 0] w fun e w' => e = .returned (.tuple #[.int .u64 N, .nilIface]) ∧ Below w.heap.size w w') (w : World) :
    Calls Tryz.prog 186 #[.string t, .int .i64 0, .int .i64 0] w fun e w' => e = .returned (.tuple #[.int .i64 (-N), .nilIface]) ∧ Below w.heap.size w w' := by
  have hemp : t.toList.isEmpty = false := by
    rw [← decide_eq_emptyBytes]
    exact decide_eq_false (fun h => hne (by rw [h]; rfl))
  have HU := Lib.hid hU
  clear hne hU
  go_enter Tryz.func186, Tryz.ntmps186
  go_wp2_with (go_at_call 189; refine (HU.out _).mono ?_; rintro e w' ⟨rfl, hb⟩)
  go_ret2
  have e : -N = wrap64 (-wrap64 N) := by unfold wrap64; omega
  rw [e]
  exact ⟨rfl, hb⟩

theorem spi_of (t : ByteArray) (N : Int)
    (hI : ∀ w, Calls Tryz.prog 186 #[.string t, .int .i64 0, .int .i64 0] w fun e w' => e = .returned (.tuple #[.int .i64 N, .nilIface]) ∧ Below w.heap.size w w') (w : World) :
    Calls Tryz.prog 155 #[.string t, .int .i64 0, .int .i64 0] w fun e w' => e = .returned (.tuple #[.int .i64 N, .nilIface]) ∧ Below w.heap.size w w' := by
  have HI := Lib.hid hI
  clear hI
  go_enter Tryz.func155, Tryz.ntmps155
  go_wp2_with (go_at_call 186; refine (HI.out _).mono ?_; rintro e w' ⟨rfl, hb⟩)
  go_ret2
  exact ⟨rfl, hb⟩

/-- zzIndex(s, sub): the first place at which sub stands, or -1. -/
theorem zzIndex_any (t sub : ByteArray) (hmax : t.size ≤ 4611686018427387903) (hs1 : 1 ≤ sub.size) (hmax2 : sub.size ≤ 4611686018427387903) (w : World) :
    Calls Tryz.prog 213 #[.string t, .string sub] w fun e w' => e = .returned (.int .i64 (Lib.indexB t sub)) ∧ w = w' := by
  go_enter Tryz.func213, Tryz.ntmps213
  go_wp2
  go_loop [5] (fun i => ∃ k : Nat, k ≤ t.size ∧ i = .int .i64 k ∧ Hid (Lib.NoOccB t sub k)) (fun i => t.size - (intOf i).toNat)
  case atStart => exact ⟨0, Nat.zero_le _, rfl, Lib.hid (Lib.NoOcc.zero _ _)⟩
  case round =>
    obtain ⟨k, hk, rfl, HN⟩ := hrel
    by_cases hlt : k + sub.size ≤ t.size
    · cases hp : ((t.extract k (k + sub.size)).toList == sub.toList) with
      | true =>
        go_wp2
        go_ret
        have := Lib.hit t sub k HN.out hlt hp
        exact ⟨by rw [this]; rfl, rfl⟩
      | false =>
        have HN1 := Lib.hid (Lib.miss_piece t sub k HN.out hlt hp)
        go_wp2
        go_round
        case rel => exact ⟨k + 1, by omega, by go_num, HN1⟩
        case measure => simp [intOf]; omega
    · go_wp2
      go_ret
      have : Lib.indexB t sub = -1 := Lib.index_past (by intro h; have h3 : sub.size = 0 := by { rw [Lib.size_eq, h]; rfl }; omega) HN.out (by rw [← Lib.size_eq, ← Lib.size_eq]; omega)
      exact ⟨by rw [this]; rfl, rfl⟩

theorem zzContains_any (t sub : ByteArray) (hmax : t.size ≤ 4611686018427387903) (hs1 : 1 ≤ sub.size) (hmax2 : sub.size ≤ 4611686018427387903) (w : World) :
    Calls Tryz.prog 187 #[.string t, .string sub] w fun e w' => e = .returned (.bool (decide (0 ≤ Lib.indexB t sub))) ∧ w = w' := by
  go_enter Tryz.func187, Tryz.ntmps187
  go_wp2_with (go_at_call 213; refine (zzIndex_any _ _ hmax hs1 hmax2 _).mono ?_; rintro e w' ⟨rfl, rfl⟩)
  go_ret
  exact ⟨rfl, rfl⟩

theorem trim_no (t : ByteArray) (hmax : t.size ≤ 4611686018427387903) (h : decide (0 ≤ Lib.indexB t ⟨#[46]⟩) = false) (w : World) :
    Calls Tryz.prog 156 #[.string t] w fun e w' => e = .returned (.string t) ∧ w = w' := by
  have hz : Calls Tryz.prog 187 #[.string t, .string ⟨#[46]⟩] w fun e w' => e = .returned (.bool false) ∧ w = w' := by
    refine (zzContains_any t ⟨#[46]⟩ hmax (by decide) (by decide) w).mono ?_
    rintro e w' ⟨rfl, rfl⟩
    exact ⟨by rw [h], rfl⟩
  have HZ := Lib.hid hz
  clear hz h
  go_enter Tryz.func156, Tryz.ntmps156
  go_wp2_with (go_at_call 187; refine (HZ.out).mono ?_; rintro e w' ⟨rfl, rfl⟩)
  go_ret
  exact ⟨rfl, rfl⟩
end Go.Proofs.YtnggkkdcddpjlaaGreatDoor
