/- Decimal digits, read by strconv's own ParseUint at base 0, are the number. -/
import Derived.Test.YtnggkkdcddpjlaaGreatDoorC0
import Derived.Test.YtnggkkdcddpjlaaGreatDoorTA
import Derived.Lib.AtoiAll
import Derived.Lib.ConvBytes
import Derived.Lib.Strings
namespace Go.Proofs.YtnggkkdcddpjlaaGreatDoor
open Go.RowKit
set_option maxRecDepth 100000
/-- Decimal digits, read again, are the number. -/
theorem parse_dec (u : Nat) : ∀ r, u < 18446744073709551616 → Lib.parseUint10 0 (Lib.decDigits u ++ r) = Lib.parseUint10 u r := by
  induction u using Nat.strongRecOn with
  | _ u ih =>
    intro r hu
    by_cases h : u < 10
    · rw [Lib.decDigits_one h]
      have e : (UInt8.ofNat (48 + u)).toNat = 48 + u := by rw [UInt8.toNat_ofNat']; omega
      simp only [List.cons_append, List.nil_append, Lib.parseUint10, e]
      rw [if_pos (by omega), if_neg (by omega), if_neg (by omega)]
      congr 1; omega
    · rw [Lib.decDigits, dif_neg h, List.append_assoc, ih (u / 10) (by omega) _ (by omega)]
      have e : (UInt8.ofNat (48 + u % 10)).toNat = 48 + u % 10 := by rw [UInt8.toNat_ofNat']; omega
      simp only [List.cons_append, List.nil_append, Lib.parseUint10, e]
      rw [if_pos (by omega), if_neg (by omega), if_neg (by omega)]
      congr 1; omega

set_option maxHeartbeats 4000000 in
theorem pu_digits (t : ByteArray) (hne : t.size ≠ 0) (hmax : t.size ≤ 9223372036854775806) (N : Nat) (c0 : UInt8) (h0 : 0 < t.size) (hc0 : t[0] = c0) (h48 : ((c0.toNat : Int) == 48) = false) (hN : Lib.parseUint10 0 t.data.toList = .ok N) (w : World) :
    Calls Tryz.prog 189 #[.string t, .int .i64 0, .int .i64 0] w fun e w' => e = .returned (.tuple #[.int .u64 N, .nilIface]) ∧ w' = Lib.bytesWorld w 5 t := by
  have hemp : t.toList.isEmpty = false := by
    rw [← decide_eq_emptyBytes]
    exact decide_eq_false (fun h => hne (by rw [h]; rfl))
  have hcv := Lib.run_convert_string_bytes (P := Tryz.prog) w 9 130 5 t (u := .string) Tryz.underlying9 Tryz.underlying130 Tryz.underlying5
  have hB : ∀ j, j < t.size → (Lib.bytesWorld w 5 t).cell? ⟨w.heap.size, j, none⟩ = some (.int .u8 (t.data.toList.getD j 0).toNat) := fun j hj => Lib.bytesWorld_cell w 5 t j hj
  obtain ⟨W1, hW1⟩ : ∃ W1, W1 = Lib.bytesWorld w 5 t := ⟨_, rfl⟩
  rw [← hW1] at hcv hB ⊢
  clear hW1
  obtain ⟨bs, hL⟩ : ∃ bs, bs = t.data.toList := ⟨_, rfl⟩
  have hLn : bs.length = t.size := by rw [hL, Lib.size_eq]
  rw [← hL] at hB hN
  clear hL
  have HN := Lib.hid hN
  clear hN hne
  have hmv : IntKind.u64.wrap (IntKind.u64.wrap 18446744073709551616 - 1) = 18446744073709551615 := by
    rw [IntKind.wrap_u64, IntKind.wrap_u64]
    decide
  go_enter Tryz.func189, Tryz.ntmps189
  go_wp2
  go_loop [12, 13, 101] (fun vu vn vi => ∃ (k acc : Nat) (a : Int), vu = .bool false ∧ vn = .int .u64 a ∧ vi = .int .i64 k ∧ k ≤ t.size ∧ Hid (a = (acc : Int) ∧ acc < 18446744073709551616 ∧ Lib.parseUint10 acc (bs.drop k) = .ok N))
    (fun _ _ vi => t.size - (intOf vi).toNat)
  case atStart => exact ⟨0, 0, 0, rfl, rfl, rfl, by omega, Lib.hid ⟨rfl, by omega, HN.out⟩⟩
  case round =>
    obtain ⟨k, acc, a, rfl, rfl, rfl, hk, hh⟩ := hrel
    obtain ⟨ha, hacc, hdec⟩ := hh.out
    clear hh
    have a0 : 0 ≤ a := by omega
    have a1 : a < 18446744073709551616 := by omega
    by_cases hkn : k < t.size
    · have hc := hB k hkn
      have hdrop : bs.drop k = bs[k]'(by omega) :: bs.drop (k + 1) := List.drop_eq_getElem_cons (by omega)
      have hget : bs.getD k 0 = bs[k]'(by omega) := by simp [List.getD, List.getElem?_eq_getElem (show k < bs.length by omega)]
      rw [hdrop] at hdec
      rw [hget] at hc
      generalize bs[k]'(by omega) = c at hc hdec
      have hc256 : c.toNat < 256 := c.toNat_lt
      clear hB hdrop hget
      by_cases hdig : 48 ≤ c.toNat ∧ c.toNat ≤ 57
      · obtain ⟨hd0, hd1⟩ := hdig
        by_cases hcut : 1844674407370955162 ≤ acc
        · simp [Lib.parseUint10, hd0, hd1, hcut] at hdec
        · by_cases hov : 18446744073709551616 ≤ acc * 10 + (c.toNat - 48)
          · simp [Lib.parseUint10, hd0, hd1, hcut, hov] at hdec
          · have hF : Lib.parseUint10 acc (c :: bs.drop (k + 1)) = Lib.parseUint10 (acc * 10 + (c.toNat - 48)) (bs.drop (k + 1)) := by simp [Lib.parseUint10, hd0, hd1, hcut, hov]
            have HN' : Hid (a * 10 + ((c.toNat : Int) - 48) = ((acc * 10 + (c.toNat - 48) : Nat) : Int) ∧ acc * 10 + (c.toNat - 48) < 18446744073709551616 ∧ Lib.parseUint10 (acc * 10 + (c.toNat - 48)) (bs.drop (k + 1)) = .ok N) := Lib.hid ⟨by omega, by omega, hF.symm.trans hdec⟩
            have icut : a < 1844674407370955162 := by omega
            have iov : a * 10 + ((c.toNat : Int) - 48) < 18446744073709551616 := by omega
            clear hcut hacc hF hov hdec ha
            go_wp2
            refine ⟨⟨k + 1, acc * 10 + (c.toNat - 48), a * 10 + ((c.toNat : Int) - 48), rfl, (by first | rfl | (congr 1; omega)), (by first | rfl | (congr 1; omega)), by omega, HN'⟩, by simp [intOf]; omega⟩
      · simp [Lib.parseUint10, hdig] at hdec
    · have hkk : k = t.size := by omega
      subst hkk
      rw [List.drop_eq_nil_of_le (by omega)] at hdec
      have hn : acc = N := by simpa [Lib.parseUint10] using hdec
      subst hn
      subst ha
      clear hdec hacc a0 a1
      go_wp2
      go_ret2
      exact ⟨rfl, rfl⟩
end Go.Proofs.YtnggkkdcddpjlaaGreatDoor
