/- spec.CastDecimalUint gives a number's decimal digits. -/
import Derived.Test.YtnggkkdcddpjlaaGreatDoorC2
namespace Go.Proofs.YtnggkkdcddpjlaaGreatDoor
open Go.RowKit
set_option maxRecDepth 100000
set_option linter.unusedVariables false
theorem conv1 (w : World) (m : Int) : (convert 130 9 (.slice (some ⟨w.heap.size, 0, none⟩) 1 1)).run Tryz.prog (w.alloc (.cells #[.int .u8 m] 5)) = .ok (.string ⟨#[UInt8.ofNat m.toNat]⟩) (w.alloc (.cells #[.int .u8 m] 5)) := by
  rw [run_convert_bytes_string _ 130 9 5 (some ⟨w.heap.size, 0, none⟩) 1 1 Tryz.underlying130 Tryz.underlying5 Tryz.underlying9]
  have hl := run_loadCells_list (P := Tryz.prog) (w.alloc (.cells #[.int .u8 m] 5)) ⟨w.heap.size, 0, none⟩ ([m].map (Value.int .u8)) (fun j v hj => by
    match j, hj with
    | 0, hj => simp at hj; subst hj; simp [Addr.add]
    | j + 1, hj => simp at hj)
  simp only [List.length_map, List.length_cons, List.length_nil] at hl
  rw [run_bytesToString _ ⟨w.heap.size, 0, none⟩ 1 1 _ hl]
  rfl
theorem ndig_le : ∀ (k u : Nat), u < 10 ^ (k + 1) → Lib.nDigits u ≤ k + 1
  | 0, u, h => by rw [Lib.nDigits_small (by simpa using h)]; omega
  | k + 1, u, h => by
    by_cases h1 : u < 10
    · rw [Lib.nDigits_small h1]; omega
    · rw [Lib.nDigits_big h1]
      have := ndig_le k (u / 10) (by rw [Nat.pow_succ] at h; omega)
      omega
theorem dec_len {u : Nat} (h : u < 18446744073709551616) : (Lib.decDigits u).length ≤ 20 := by
  rw [Lib.decDigits_length]
  exact ndig_le 19 u (Nat.lt_of_lt_of_le h (by decide))
theorem dec_tail {u : Nat} {x r : List UInt8} (h : u < 18446744073709551616) (e : Lib.decDigits u = x ++ r) : r.length ≤ 20 := by
  have := dec_len h
  rw [e, List.length_append] at this
  omega
/-- One digit more in front. -/
theorem dec_step (N m : Nat) (r : List UInt8) (hm : 0 < m) (h : Lib.decDigits N = Lib.decDigits m ++ r) :
    Lib.decDigits N = (if m / 10 = 0 then [] else Lib.decDigits (m / 10)) ++ (UInt8.ofNat (48 + m % 10) :: r) := by
  rw [h]
  by_cases h1 : m < 10
  · rw [Lib.decDigits_one h1, if_pos (by omega)]
    have : m % 10 = m := by omega
    rw [this]; rfl
  · rw [if_neg (by omega)]
    rw [Lib.decDigits, dif_neg h1, List.append_assoc]; rfl
theorem dec_first (N : Nat) : Lib.decDigits N = (if N / 10 = 0 then [] else Lib.decDigits (N / 10)) ++ [UInt8.ofNat (48 + N % 10)] := by
  by_cases h1 : N < 10
  · rw [Lib.decDigits_one h1, if_pos (by omega)]
    have : N % 10 = N := by omega
    rw [this]; rfl
  · rw [if_neg (by omega)]
    rw [Lib.decDigits, dif_neg h1]
set_option maxHeartbeats 800000 in
/-- spec.CastDecimalUint: the decimal digits. -/
theorem decU (n : Int) (h0 : 0 ≤ n) (h1 : n ≤ 18446744073709551615) (w : World) :
    Calls Tryz.prog 48 #[.int .u64 n] w fun e w' => e = .returned (.string ⟨(Lib.decDigits n.toNat).toArray⟩) ∧ Below w.heap.size w w' := by
  have hc := conv1
  have HN := Lib.hid (show n.toNat < 18446744073709551616 by omega)
  go_enter Tryz.func48, Tryz.ntmps48
  go_wp2
  go_loopw [0, 3] (fun v0 v3 wr => ∃ (m : Int) (r : List UInt8), v0 = .int .u64 m ∧ v3 = .string ⟨r.toArray⟩ ∧ 0 ≤ m ∧ m ≤ n ∧ Hid (Lib.decDigits n.toNat = (if m.toNat = 0 then [] else Lib.decDigits m.toNat) ++ r) ∧ Below w.heap.size w wr)
    (fun v0 _ _ => (intOf v0).toNat)
  case atStart =>
    refine ⟨n / 10, [UInt8.ofNat (48 + n.toNat % 10)], rfl, ?_, by omega, by omega, Lib.hid ?_, below_alloc _ _⟩
    · rw [show (48 + n % 10).toNat = 48 + n.toNat % 10 by omega]
    · rw [show (n / 10).toNat = n.toNat / 10 by omega]
      exact dec_first _
  case round =>
    obtain ⟨m, r, rfl, rfl, hm0, hm1, HD, hb⟩ := hrel
    have hr : r.length ≤ 20 := dec_tail HN.out HD.out
    have hr2 : (⟨r.toArray⟩ : ByteArray).size ≤ 20 := hr
    by_cases hz : 0 < m
    · go_wp2
      go_roundw
      case rel =>
        refine ⟨m / 10, UInt8.ofNat (48 + m.toNat % 10) :: r, rfl, ?_, by omega, by omega, Lib.hid ?_, hb.alloc hb.size _⟩
        · rw [show (48 + m % 10).toNat = 48 + m.toNat % 10 by omega]
          refine congrArg Value.string ?_
          apply ByteArray.ext
          simp
        · rw [show (m / 10).toNat = m.toNat / 10 by omega]
          have := HD.out
          rw [if_neg (by omega)] at this
          exact dec_step _ _ _ (by omega) this
      case measure => simp [intOf]; omega
    · go_wp2
      go_ret
      have := HD.out
      rw [if_pos (by omega)] at this
      exact ⟨by rw [this]; rfl, hb⟩
end Go.Proofs.YtnggkkdcddpjlaaGreatDoor
