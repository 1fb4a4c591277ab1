/- internal/strconv.ParseUint at base 0: total; its answers hang on the text alone. -/
import Derived.Test.YtnggkkdcddpjlaaGreatDoorG4
import Derived.Test.YtnggkkdcddpjlaaGreatDoorT6
import Derived.Test.YtnggkkdcddpjlaaGreatDoorHB
import Derived.Lib.AtoiErrMem
namespace Go.Proofs.YtnggkkdcddpjlaaGreatDoor
open Go.RowKit
set_option maxRecDepth 100000
set_option linter.unusedVariables false
set_option linter.unusedSimpArgs false
structure PU where
  k : Nat
  us : Bool
  n : Int
theorem byt_list (s : ByteArray) (k : Nat) (h : k < s.size) : ((s.data.toList.getD k 0).toNat : Int) = byt s k := by
  rw [← byt_at h, List.getD_eq_getElem?_getD, List.getElem?_eq_getElem (by simpa using h)]
  rfl
/-- A digit's worth; 99 where it is none. -/
def dgv (c : Int) : Int := if 48 ≤ c ∧ c ≤ 57 then c - 48 else if 97 ≤ low c ∧ low c ≤ 122 then low c - 97 + 10 else 99
def puStep (B CO : Int) (t : ByteArray) (z : PU) : Option PU :=
  if z.k < t.size then
    if byt t z.k = 95 then some ⟨z.k + 1, true, z.n⟩
    else if B ≤ dgv (byt t z.k) then none
    else if CO ≤ z.n then none
    else if 18446744073709551616 ≤ z.n * B + dgv (byt t z.k) then none
    else some ⟨z.k + 1, z.us, z.n * B + dgv (byt t z.k)⟩
  else none
structure PUI (t : ByteArray) (z : PU) : Prop where
  k : z.k ≤ t.size
  n0 : 0 ≤ z.n
  n1 : z.n < 18446744073709551616
theorem dgv_in (c : Int) (h0 : 0 ≤ c) : 0 ≤ dgv c ∧ dgv c ≤ 99 := by
  have := low_in c
  unfold dgv
  split
  · omega
  · split <;> omega
theorem pu_keep (B CO : Int) (hB : 0 ≤ B) (t : ByteArray) (x y : PU) (h : PUI t x) (hs : puStep B CO t x = some y) : PUI t y ∧ t.size - y.k < t.size - x.k := by
  obtain ⟨a1, a2, a3⟩ := h
  unfold puStep at hs
  split at hs
  · split at hs
    · simp only [Option.some.injEq] at hs; subst hs
      exact ⟨⟨by dsimp only; omega, a2, a3⟩, by dsimp only; omega⟩
    · split at hs
      · cases hs
      · split at hs
        · cases hs
        · split at hs
          · cases hs
          · simp only [Option.some.injEq] at hs; subst hs
            have h1 := dgv_in (byt t x.k) (byt_in t x.k).1
            have h2 : 0 ≤ x.n * B := Int.mul_nonneg a2 hB
            exact ⟨⟨by dsimp only; omega, by dsimp only; omega, by dsimp only; omega⟩, by dsimp only; omega⟩
  · cases hs
/-- What ParseUint answers behind its loop: the number and the error's kind. -/
def puOut (B : Int) (s t : ByteArray) (z : PU) : Int × Nat :=
  if z.k < t.size then (if B ≤ dgv (byt t z.k) then (0, 2) else (18446744073709551615, 1)) else if (z.us && !uOK s) = true then (0, 2) else (z.n, 0)
/-- The base, and how many bytes of the prefix go. -/
def puB (s : ByteArray) : Int × Nat :=
  if byt s 0 = 48 then
    if 3 ≤ s.size ∧ low (byt s 1) = 98 then (2, 2)
    else if 3 ≤ s.size ∧ low (byt s 1) = 111 then (8, 2)
    else if 3 ≤ s.size ∧ low (byt s 1) = 120 then (16, 2)
    else (8, 1)
  else (10, 0)
def puT (s : ByteArray) : ByteArray := if (puB s).2 = 0 then s else s.extract (puB s).2 s.size
def puCO (B : Int) : Int := 18446744073709551615 / B + 1
theorem puB_in (s : ByteArray) : (puB s).1 = 2 ∨ (puB s).1 = 8 ∨ (puB s).1 = 10 ∨ (puB s).1 = 16 := by
  unfold puB
  (repeat' split) <;> simp
theorem puT_size (s : ByteArray) : (puT s).size ≤ s.size := by
  unfold puT
  split
  · omega
  · rw [ByteArray.size_extract]; omega
def UintPost (w : World) (v : Int) (k : Nat) (e : Ending) (w' : World) : Prop := e = .returned (.tuple #[.int .u64 v, er3 k]) ∧ Below w.heap.size w w'
set_option maxHeartbeats 4000000 in
theorem pu_run (s : ByteArray) (hs : (s.size : Int) ≤ 1000000) (h0 : 0 < s.size) (Z : PU) (hI : PUI (puT s) Z) (hE : Ends (puStep (puB s).1 (puCO (puB s).1) (puT s)) ⟨0, false, 0⟩ Z) (w : World) :
    Calls Tryz.prog 189 #[.string s, .int .i64 0, .int .i64 0] w (UintPost w (puOut (puB s).1 s (puT s) Z).1 (puOut (puB s).1 s (puT s) Z).2) := by
  obtain ⟨V, hV⟩ : ∃ v, v = (puOut (puB s).1 s (puT s) Z).1 := ⟨_, rfl⟩
  obtain ⟨K, hK⟩ : ∃ k, k = (puOut (puB s).1 s (puT s) Z).2 := ⟨_, rfl⟩
  rw [← hV, ← hK]
  obtain ⟨Q, hQ⟩ : ∃ Q, Q = UintPost w V K := ⟨_, rfl⟩
  rw [← hQ]
  have HQ := Lib.hid hQ
  have HVK : Hid ((V, K) = puOut (puB s).1 s (puT s) Z) := Lib.hid (by rw [hV, hK])
  have HI := Lib.hid hI
  have HE := Lib.hid hE
  have HBin := Lib.hid (puB_in s)
  have HTs := Lib.hid (puT_size s)
  clear hQ hV hK hI hE
  have hne : s.toList.isEmpty = false := by
    rw [← decide_eq_emptyBytes]
    exact decide_eq_false (fun h => by rw [h] at h0; exact absurd h0 (by decide))
  have HBy := Lib.hid (fun k (h : k < s.size) => byt_at h)
  have HLow := Lib.hid (fun c w => Tryz.internal_strconv_lower c w)
  have hU := fun w => under_uOK s hs w
  have HU := Lib.hid hU
  clear hU
  obtain ⟨B, hB⟩ : ∃ B, B = (puB s).1 := ⟨_, rfl⟩
  obtain ⟨T, hT⟩ : ∃ T, T = puT s := ⟨_, rfl⟩
  rw [← hB] at HVK HE HBin
  rw [← hT] at HVK HE HI HTs
  have HB := Lib.hid hB
  have HT := Lib.hid hT
  clear hB hT
  have hmv : IntKind.u64.wrap (IntKind.u64.wrap 18446744073709551616 - 1) = 18446744073709551615 := by
    rw [IntKind.wrap_u64, IntKind.wrap_u64]
    decide
  have hs0 : (0 : Int) < s.size := by omega
  have hb0 := HBy.out 0 h0
  obtain ⟨c0, hc0⟩ : ∃ c, byt s 0 = c := ⟨_, rfl⟩
  rw [hc0] at hb0
  have HC0 := Lib.hid hc0
  clear hc0
  go_enter Tryz.func189, Tryz.ntmps189
  go_upto_block 0 with fail
  go_cut [0, 1] from 25 to 75 (fun ss sb wr => w = wr ∧ ss = .string T ∧ sb = .int .i64 B)
  case first =>
    by_cases h48 : c0 = 48
    · subst h48
      by_cases h3 : 3 ≤ s.size
      · have h3b : (3 : Int) ≤ s.size := by omega
        have hb1 := HBy.out 1 (by omega)
        have hs1 : (1 : Int) < s.size := by omega
        obtain ⟨c1, hc1⟩ : ∃ c, byt s 1 = c := ⟨_, rfl⟩
        rw [hc1] at hb1
        obtain ⟨l1, hl1⟩ : ∃ l, bits .or .u8 c1 32 = l := ⟨_, rfl⟩
        have HPB : Hid (puB s = if l1 = 98 then (2, 2) else if l1 = 111 then (8, 2) else if l1 = 120 then (16, 2) else (8, 1)) := Lib.hid (by
          unfold puB low
          rw [if_pos HC0.out, hc1, hl1]
          simp only [h3, true_and])
        clear hc1
        by_cases q1 : l1 = 98
        · have hb : B = 2 := by rw [HB.out, HPB.out, if_pos q1]
          have ht : T = s.extract 2 s.size := by rw [HT.out]; unfold puT; rw [HPB.out, if_pos q1]; rfl
          have HA := Lib.hid hb
          have HA2 := Lib.hid ht
          subst q1
          clear hb ht
          go_wp2_with (go_at_call 214; refine (HLow.out _ _).mono ?_; rintro r w1 ⟨rfl, rfl⟩)
          go_meet
          rw [HA.out, HA2.out]
          exact ⟨rfl, rfl, rfl⟩
        · have b98 : (l1 == 98) = false := by simpa using q1
          by_cases q2 : l1 = 111
          · have hb : B = 8 := by rw [HB.out, HPB.out, if_neg q1, if_pos q2]
            have ht : T = s.extract 2 s.size := by rw [HT.out]; unfold puT; rw [HPB.out, if_neg q1, if_pos q2]; rfl
            have HA := Lib.hid hb
            have HA2 := Lib.hid ht
            subst q2
            clear q1
            clear hb ht
            go_wp2_with (go_at_call 214; refine (HLow.out _ _).mono ?_; rintro r w1 ⟨rfl, rfl⟩)
            go_meet
            rw [HA.out, HA2.out]
            exact ⟨rfl, rfl, rfl⟩
          · have b111 : (l1 == 111) = false := by simpa using q2
            by_cases q3 : l1 = 120
            · have hb : B = 16 := by rw [HB.out, HPB.out, if_neg q1, if_neg q2, if_pos q3]
              have ht : T = s.extract 2 s.size := by rw [HT.out]; unfold puT; rw [HPB.out, if_neg q1, if_neg q2, if_pos q3]; rfl
              have HA := Lib.hid hb
              have HA2 := Lib.hid ht
              subst q3
              clear q1 q2
              clear hb ht
              go_wp2_with (go_at_call 214; refine (HLow.out _ _).mono ?_; rintro r w1 ⟨rfl, rfl⟩)
              go_meet
              rw [HA.out, HA2.out]
              exact ⟨rfl, rfl, rfl⟩
            · have b120 : (l1 == 120) = false := by simpa using q3
              have hb : B = 8 := by rw [HB.out, HPB.out, if_neg q1, if_neg q2, if_neg q3]
              have ht : T = s.extract 1 s.size := by rw [HT.out]; unfold puT; rw [HPB.out, if_neg q1, if_neg q2, if_neg q3]; rfl
              have HA := Lib.hid hb
              have HA2 := Lib.hid ht
              clear q1 q2 q3
              clear hb ht
              go_wp2_with (go_at_call 214; refine (HLow.out _ _).mono ?_; rintro r w1 ⟨rfl, rfl⟩)
              go_meet
              rw [HA.out, HA2.out]
              exact ⟨rfl, rfl, rfl⟩
      · have h3b : ¬ (3 : Int) ≤ s.size := by omega
        have h3d : decide ((3 : Int) ≤ s.size) = false := by simpa using h3b
        have HPB : Hid (puB s = (8, 1)) := Lib.hid (by
          unfold puB
          rw [if_pos HC0.out, if_neg (fun h => h3 h.1), if_neg (fun h => h3 h.1), if_neg (fun h => h3 h.1)])
        have hb : B = 8 := by rw [HB.out, HPB.out]
        have ht : T = s.extract 1 s.size := by rw [HT.out]; unfold puT; rw [HPB.out]; rfl
        have HA := Lib.hid hb
        have HA2 := Lib.hid ht
        clear hb ht
        go_wp2_with (go_at_call 214; refine (HLow.out _ _).mono ?_; rintro r w1 ⟨rfl, rfl⟩)
        go_meet
        rw [HA.out, HA2.out]
        exact ⟨rfl, rfl, rfl⟩
    · have b48 : (c0 == 48) = false := by simpa using h48
      have HPB : Hid (puB s = (10, 0)) := Lib.hid (by
        unfold puB
        rw [HC0.out, if_neg h48])
      have hb : B = 10 := by rw [HB.out, HPB.out]
      have ht : T = s := by rw [HT.out]; unfold puT; rw [HPB.out]; rfl
      have HA := Lib.hid hb
      have HA2 := Lib.hid ht
      clear hb ht
      go_wp2_with (go_at_call 214; refine (HLow.out _ _).mono ?_; rintro r w1 ⟨rfl, rfl⟩)
      go_meet
      rw [HA.out, HA2.out]
      exact ⟨rfl, rfl, rfl⟩
  case rest =>
    obtain ⟨rfl, rfl, rfl⟩ := hcut
    have hb16 : 2 ≤ B ∧ B ≤ 16 := by have := HBin.out; omega
    obtain ⟨hb2, hb17⟩ := hb16
    obtain ⟨CO, hCO⟩ : ∃ C, C = puCO B := ⟨_, rfl⟩
    rw [← hCO] at HE
    have HCO := Lib.hid hCO
    clear hCO hb0
    go_upto_block 2 with fail
    go_cut [10] from 86 to 93 (fun sc wr => w = wr ∧ sc = .int .u64 CO)
    case first =>
      rcases HBin.out with rfl | rfl | rfl | rfl
      all_goals
        go_wp2_with fail
        go_meet
        rw [HCO.out]
        exact ⟨rfl, rfl⟩
    case rest =>
      obtain ⟨rfl, rfl⟩ := hcut
      have hcv := Lib.run_convert_string_bytes (P := Tryz.prog) w 9 130 5 T (u := .string) Tryz.underlying9 Tryz.underlying130 Tryz.underlying5
      have hBC : ∀ j, j < T.size → (Lib.bytesWorld w 5 T).cell? ⟨w.heap.size, j, none⟩ = some (.int .u8 (byt T j)) := fun j hj => by
        rw [Lib.bytesWorld_cell w 5 T j hj, byt_list T j hj]
      have HWB := Lib.hid (Lib.bytesWorld_below w 5 T)
      obtain ⟨W1, hW1⟩ : ∃ W1, W1 = Lib.bytesWorld w 5 T := ⟨_, rfl⟩
      rw [← hW1] at hcv hBC HWB
      clear hW1
      have HBC := Lib.hid hBC
      have hts := HTs.out
      have hcn : 0 ≤ CO ∧ CO ≤ 18446744073709551616 ∧ (∀ n : Int, 0 ≤ n → n < CO → n * B < 18446744073709551616) := by
        rw [HCO.out]
        unfold puCO
        rcases HBin.out with rfl | rfl | rfl | rfl <;> exact ⟨by decide, by decide, fun n h1 h2 => by omega⟩
      obtain ⟨co0, co1, hmul⟩ := hcn
      have HMul := Lib.hid hmul
      clear hBC hmul
      go_wp2_with fail
      clear hcv
      go_loopg [12, 13, 101] T.size (fun g su sn si wr => ∃ y : PU, g = T.size - y.k ∧ W1 = wr ∧ PUI T y ∧ Ends (puStep B CO T) y Z ∧ su = .bool y.us ∧ sn = .int .u64 y.n ∧ si = .int .i64 y.k)
      case atStart => exact ⟨⟨0, false, 0⟩, rfl, rfl, ⟨Nat.zero_le _, by show (0 : Int) ≤ 0; omega, by show (0 : Int) < 18446744073709551616; omega⟩, HE.out, rfl, rfl, rfl⟩
      case round =>
        obtain ⟨⟨k, us, n⟩, rfl, rfl, hI, hE, rfl, rfl, rfl⟩ := hrel
        obtain ⟨a1, a2, a3⟩ := hI
        have HIx : Hid (PUI T ⟨k, us, n⟩) := Lib.hid ⟨a1, a2, a3⟩
        have HEx := Lib.hid hE
        dsimp only at a1 a2 a3
        clear hE
        by_cases hk : k < T.size
        · have hc := HBC.out k hk
          have hk2 : (k : Int) < T.size := by omega
          have hci := byt_in T k
          obtain ⟨c, hcc⟩ : ∃ c, byt T k = c := ⟨_, rfl⟩
          rw [hcc] at hc hci
          have HStep : Hid (puStep B CO T ⟨k, us, n⟩ = if c = 95 then some ⟨k + 1, true, n⟩ else if B ≤ dgv c then none else if CO ≤ n then none else if 18446744073709551616 ≤ n * B + dgv c then none else some ⟨k + 1, us, n * B + dgv c⟩) := Lib.hid (by
            unfold puStep
            dsimp only
            rw [if_pos hk, hcc])
          have HOutR : Hid (∀ z : PU, z.k = k → puOut B s T z = if B ≤ dgv c then (0, 2) else (18446744073709551615, 1)) := Lib.hid (fun z hz => by
            unfold puOut
            rw [hz, if_pos hk, hcc])
          obtain ⟨lc, hlc⟩ : ∃ l, bits .or .u8 c 32 = l := ⟨_, rfl⟩
          have hli := low_in c
          have hld : dgv c = if 48 ≤ c ∧ c ≤ 57 then c - 48 else if 97 ≤ lc ∧ lc ≤ 122 then lc - 97 + 10 else 99 := by
            unfold dgv low
            rw [hlc]
          unfold low at hli
          rw [hlc] at hli
          have HLD := Lib.hid hld
          clear hcc hld
          by_cases h95 : c = 95
          · subst h95
            have hst : puStep B CO T ⟨k, us, n⟩ = some ⟨k + 1, true, n⟩ := by rw [HStep.out, if_pos rfl]
            have HST := Lib.hid hst
            clear hst
            go_wp2_with fail
            go_roundg (T.size - (k + 1))
            case measure => omega
            case rel => exact ⟨⟨k + 1, true, n⟩, rfl, rfl, (pu_keep _ _ (by omega) _ _ _ HIx.out HST.out).1, HEx.out.next HST.out, rfl, rfl, by simp⟩
          · have b95 : (c == 95) = false := by simpa using h95
            by_cases h1 : 48 ≤ c ∧ c ≤ 57
            · have HDv : Hid (dgv c = c - 48) := Lib.hid (by rw [HLD.out, if_pos h1])
              obtain ⟨h1a, h1b⟩ := h1
              have c1 : decide (48 ≤ c) = true := by simpa using h1a
              have c2 : decide (c ≤ 57) = true := by simpa using h1b
              by_cases g1 : B ≤ c - 48
              · have b1 : decide (B ≤ c - 48) = true := by simpa using g1
                have hz := HEx.out.done (by rw [HStep.out, if_neg h95, if_pos (by rw [HDv.out]; exact g1)])
                have hvk : (V, K) = (0, 2) := by rw [HVK.out, HOutR.out Z (by rw [hz]), if_pos (by rw [HDv.out]; exact g1)]
                injection hvk with hv hkk
                have HV := Lib.hid hv
                have HK := Lib.hid hkk
                clear hv hkk hz
                go_wp2_with (go_at_call 214; refine (HLow.out _ _).mono ?_; rintro r w1 ⟨rfl, rfl⟩)
                rw [HQ.out, HV.out, HK.out]
                exact ⟨rfl, HWB.out⟩
              · have b1 : decide (B ≤ c - 48) = false := by simpa using g1
                by_cases g2 : CO ≤ n
                · have b2 : decide (CO ≤ n) = true := by simpa using g2
                  have hz := HEx.out.done (by rw [HStep.out, if_neg h95, if_neg (by rw [HDv.out]; exact g1), if_pos g2])
                  have hvk : (V, K) = (18446744073709551615, 1) := by rw [HVK.out, HOutR.out Z (by rw [hz]), if_neg (by rw [HDv.out]; exact g1)]
                  injection hvk with hv hkk
                  have HV := Lib.hid hv
                  have HK := Lib.hid hkk
                  clear hv hkk hz
                  go_wp2_with (go_at_call 214; refine (HLow.out _ _).mono ?_; rintro r w1 ⟨rfl, rfl⟩)
                  rw [HQ.out, HV.out, HK.out]
                  exact ⟨rfl, HWB.out⟩
                · have b2 : decide (CO ≤ n) = false := by simpa using g2
                  obtain ⟨P, hP⟩ : ∃ P, n * B = P := ⟨_, rfl⟩
                  have hP0 : 0 ≤ P := by rw [← hP]; exact Int.mul_nonneg a2 (by omega)
                  have hP1 : P < 18446744073709551616 := by rw [← hP]; exact HMul.out n a2 (by omega)
                  have HP := Lib.hid hP
                  by_cases g3 : 18446744073709551616 ≤ P + (c - 48)
                  · have hw : IntKind.u64.wrap (P + (c - 48)) = P + (c - 48) - 18446744073709551616 := by rw [IntKind.wrap_u64]; omega
                    have b3 : decide (P + (c - 48) - 18446744073709551616 < P) = true := by simp; omega
                    have hz := HEx.out.done (by rw [HStep.out, if_neg h95, if_neg (by rw [HDv.out]; exact g1), if_neg g2, if_pos (by rw [HDv.out, HP.out]; exact g3)])
                    have hvk : (V, K) = (18446744073709551615, 1) := by rw [HVK.out, HOutR.out Z (by rw [hz]), if_neg (by rw [HDv.out]; exact g1)]
                    injection hvk with hv hkk
                    have HV := Lib.hid hv
                    have HK := Lib.hid hkk
                    clear hv hkk hz
                    go_wp2_with (go_at_call 214; refine (HLow.out _ _).mono ?_; rintro r w1 ⟨rfl, rfl⟩)
                    rw [HQ.out, HV.out, HK.out]
                    exact ⟨rfl, HWB.out⟩
                  · have b3 : decide (P + (c - 48) < P) = false := by simp; omega
                    have b4 : decide (18446744073709551615 < P + (c - 48)) = false := by simp; omega
                    have hst : puStep B CO T ⟨k, us, n⟩ = some ⟨k + 1, us, P + (c - 48)⟩ := by rw [HStep.out, if_neg h95, if_neg (by rw [HDv.out]; exact g1), if_neg g2, if_neg (by rw [HDv.out, HP.out]; exact g3), HDv.out, HP.out]
                    have HST := Lib.hid hst
                    clear hst
                    go_wp2_with (go_at_call 214; refine (HLow.out _ _).mono ?_; rintro r w1 ⟨rfl, rfl⟩)
                    go_roundg (T.size - (k + 1))
                    case measure => omega
                    case rel => exact ⟨⟨k + 1, us, P + (c - 48)⟩, rfl, rfl, (pu_keep _ _ (by omega) _ _ _ HIx.out HST.out).1, HEx.out.next HST.out, rfl, rfl, by simp⟩
            · by_cases h2 : 97 ≤ lc ∧ lc ≤ 122
              · have HDv : Hid (dgv c = lc - 97 + 10) := Lib.hid (by rw [HLD.out, if_neg h1, if_pos h2])
                obtain ⟨h2a, h2b⟩ := h2
                have e1 : decide (97 ≤ lc) = true := by simpa using h2a
                have e2 : decide (lc ≤ 122) = true := by simpa using h2b
                by_cases h1a : 48 ≤ c
                · have c1 : decide (48 ≤ c) = true := by simpa using h1a
                  have h1b : ¬ c ≤ 57 := fun h => h1 ⟨h1a, h⟩
                  have c2 : decide (c ≤ 57) = false := by simpa using h1b
                  clear h1
                  by_cases g1 : B ≤ lc - 97 + 10
                  · have b1 : decide (B ≤ lc - 97 + 10) = true := by simpa using g1
                    have hz := HEx.out.done (by rw [HStep.out, if_neg h95, if_pos (by rw [HDv.out]; exact g1)])
                    have hvk : (V, K) = (0, 2) := by rw [HVK.out, HOutR.out Z (by rw [hz]), if_pos (by rw [HDv.out]; exact g1)]
                    injection hvk with hv hkk
                    have HV := Lib.hid hv
                    have HK := Lib.hid hkk
                    clear hv hkk hz
                    go_wp2_with (go_at_call 214; refine (HLow.out _ _).mono ?_; rintro r w1 ⟨rfl, rfl⟩)
                    rw [HQ.out, HV.out, HK.out]
                    exact ⟨rfl, HWB.out⟩
                  · have b1 : decide (B ≤ lc - 97 + 10) = false := by simpa using g1
                    by_cases g2 : CO ≤ n
                    · have b2 : decide (CO ≤ n) = true := by simpa using g2
                      have hz := HEx.out.done (by rw [HStep.out, if_neg h95, if_neg (by rw [HDv.out]; exact g1), if_pos g2])
                      have hvk : (V, K) = (18446744073709551615, 1) := by rw [HVK.out, HOutR.out Z (by rw [hz]), if_neg (by rw [HDv.out]; exact g1)]
                      injection hvk with hv hkk
                      have HV := Lib.hid hv
                      have HK := Lib.hid hkk
                      clear hv hkk hz
                      go_wp2_with (go_at_call 214; refine (HLow.out _ _).mono ?_; rintro r w1 ⟨rfl, rfl⟩)
                      rw [HQ.out, HV.out, HK.out]
                      exact ⟨rfl, HWB.out⟩
                    · have b2 : decide (CO ≤ n) = false := by simpa using g2
                      obtain ⟨P, hP⟩ : ∃ P, n * B = P := ⟨_, rfl⟩
                      have hP0 : 0 ≤ P := by rw [← hP]; exact Int.mul_nonneg a2 (by omega)
                      have hP1 : P < 18446744073709551616 := by rw [← hP]; exact HMul.out n a2 (by omega)
                      have HP := Lib.hid hP
                      by_cases g3 : 18446744073709551616 ≤ P + (lc - 97 + 10)
                      · have hw : IntKind.u64.wrap (P + (lc - 97 + 10)) = P + (lc - 97 + 10) - 18446744073709551616 := by rw [IntKind.wrap_u64]; omega
                        have b3 : decide (P + (lc - 97 + 10) - 18446744073709551616 < P) = true := by simp; omega
                        have hz := HEx.out.done (by rw [HStep.out, if_neg h95, if_neg (by rw [HDv.out]; exact g1), if_neg g2, if_pos (by rw [HDv.out, HP.out]; exact g3)])
                        have hvk : (V, K) = (18446744073709551615, 1) := by rw [HVK.out, HOutR.out Z (by rw [hz]), if_neg (by rw [HDv.out]; exact g1)]
                        injection hvk with hv hkk
                        have HV := Lib.hid hv
                        have HK := Lib.hid hkk
                        clear hv hkk hz
                        go_wp2_with (go_at_call 214; refine (HLow.out _ _).mono ?_; rintro r w1 ⟨rfl, rfl⟩)
                        rw [HQ.out, HV.out, HK.out]
                        exact ⟨rfl, HWB.out⟩
                      · have b3 : decide (P + (lc - 97 + 10) < P) = false := by simp; omega
                        have b4 : decide (18446744073709551615 < P + (lc - 97 + 10)) = false := by simp; omega
                        have hst : puStep B CO T ⟨k, us, n⟩ = some ⟨k + 1, us, P + (lc - 97 + 10)⟩ := by rw [HStep.out, if_neg h95, if_neg (by rw [HDv.out]; exact g1), if_neg g2, if_neg (by rw [HDv.out, HP.out]; exact g3), HDv.out, HP.out]
                        have HST := Lib.hid hst
                        clear hst
                        go_wp2_with (go_at_call 214; refine (HLow.out _ _).mono ?_; rintro r w1 ⟨rfl, rfl⟩)
                        go_roundg (T.size - (k + 1))
                        case measure => omega
                        case rel => exact ⟨⟨k + 1, us, P + (lc - 97 + 10)⟩, rfl, rfl, (pu_keep _ _ (by omega) _ _ _ HIx.out HST.out).1, HEx.out.next HST.out, rfl, rfl, by simp⟩
                · have c1 : decide (48 ≤ c) = false := by simpa using h1a
                  clear h1
                  by_cases g1 : B ≤ lc - 97 + 10
                  · have b1 : decide (B ≤ lc - 97 + 10) = true := by simpa using g1
                    have hz := HEx.out.done (by rw [HStep.out, if_neg h95, if_pos (by rw [HDv.out]; exact g1)])
                    have hvk : (V, K) = (0, 2) := by rw [HVK.out, HOutR.out Z (by rw [hz]), if_pos (by rw [HDv.out]; exact g1)]
                    injection hvk with hv hkk
                    have HV := Lib.hid hv
                    have HK := Lib.hid hkk
                    clear hv hkk hz
                    go_wp2_with (go_at_call 214; refine (HLow.out _ _).mono ?_; rintro r w1 ⟨rfl, rfl⟩)
                    rw [HQ.out, HV.out, HK.out]
                    exact ⟨rfl, HWB.out⟩
                  · have b1 : decide (B ≤ lc - 97 + 10) = false := by simpa using g1
                    by_cases g2 : CO ≤ n
                    · have b2 : decide (CO ≤ n) = true := by simpa using g2
                      have hz := HEx.out.done (by rw [HStep.out, if_neg h95, if_neg (by rw [HDv.out]; exact g1), if_pos g2])
                      have hvk : (V, K) = (18446744073709551615, 1) := by rw [HVK.out, HOutR.out Z (by rw [hz]), if_neg (by rw [HDv.out]; exact g1)]
                      injection hvk with hv hkk
                      have HV := Lib.hid hv
                      have HK := Lib.hid hkk
                      clear hv hkk hz
                      go_wp2_with (go_at_call 214; refine (HLow.out _ _).mono ?_; rintro r w1 ⟨rfl, rfl⟩)
                      rw [HQ.out, HV.out, HK.out]
                      exact ⟨rfl, HWB.out⟩
                    · have b2 : decide (CO ≤ n) = false := by simpa using g2
                      obtain ⟨P, hP⟩ : ∃ P, n * B = P := ⟨_, rfl⟩
                      have hP0 : 0 ≤ P := by rw [← hP]; exact Int.mul_nonneg a2 (by omega)
                      have hP1 : P < 18446744073709551616 := by rw [← hP]; exact HMul.out n a2 (by omega)
                      have HP := Lib.hid hP
                      by_cases g3 : 18446744073709551616 ≤ P + (lc - 97 + 10)
                      · have hw : IntKind.u64.wrap (P + (lc - 97 + 10)) = P + (lc - 97 + 10) - 18446744073709551616 := by rw [IntKind.wrap_u64]; omega
                        have b3 : decide (P + (lc - 97 + 10) - 18446744073709551616 < P) = true := by simp; omega
                        have hz := HEx.out.done (by rw [HStep.out, if_neg h95, if_neg (by rw [HDv.out]; exact g1), if_neg g2, if_pos (by rw [HDv.out, HP.out]; exact g3)])
                        have hvk : (V, K) = (18446744073709551615, 1) := by rw [HVK.out, HOutR.out Z (by rw [hz]), if_neg (by rw [HDv.out]; exact g1)]
                        injection hvk with hv hkk
                        have HV := Lib.hid hv
                        have HK := Lib.hid hkk
                        clear hv hkk hz
                        go_wp2_with (go_at_call 214; refine (HLow.out _ _).mono ?_; rintro r w1 ⟨rfl, rfl⟩)
                        rw [HQ.out, HV.out, HK.out]
                        exact ⟨rfl, HWB.out⟩
                      · have b3 : decide (P + (lc - 97 + 10) < P) = false := by simp; omega
                        have b4 : decide (18446744073709551615 < P + (lc - 97 + 10)) = false := by simp; omega
                        have hst : puStep B CO T ⟨k, us, n⟩ = some ⟨k + 1, us, P + (lc - 97 + 10)⟩ := by rw [HStep.out, if_neg h95, if_neg (by rw [HDv.out]; exact g1), if_neg g2, if_neg (by rw [HDv.out, HP.out]; exact g3), HDv.out, HP.out]
                        have HST := Lib.hid hst
                        clear hst
                        go_wp2_with (go_at_call 214; refine (HLow.out _ _).mono ?_; rintro r w1 ⟨rfl, rfl⟩)
                        go_roundg (T.size - (k + 1))
                        case measure => omega
                        case rel => exact ⟨⟨k + 1, us, P + (lc - 97 + 10)⟩, rfl, rfl, (pu_keep _ _ (by omega) _ _ _ HIx.out HST.out).1, HEx.out.next HST.out, rfl, rfl, by simp⟩
              · have HDv : Hid (dgv c = 99) := Lib.hid (by rw [HLD.out, if_neg h1, if_neg h2])
                have hz := HEx.out.done (by rw [HStep.out, if_neg h95, if_pos (by rw [HDv.out]; omega)])
                have hvk : (V, K) = (0, 2) := by rw [HVK.out, HOutR.out Z (by rw [hz]), if_pos (by rw [HDv.out]; omega)]
                injection hvk with hv hkk
                have HV := Lib.hid hv
                have HK := Lib.hid hkk
                clear hv hkk hz
                by_cases h1a : 48 ≤ c
                · have c1 : decide (48 ≤ c) = true := by simpa using h1a
                  have h1b : ¬ c ≤ 57 := fun h => h1 ⟨h1a, h⟩
                  have c2 : decide (c ≤ 57) = false := by simpa using h1b
                  clear h1
                  by_cases h2a : 97 ≤ lc
                  · have e1 : decide (97 ≤ lc) = true := by simpa using h2a
                    have h2b : ¬ lc ≤ 122 := fun h => h2 ⟨h2a, h⟩
                    have e2 : decide (lc ≤ 122) = false := by simpa using h2b
                    clear h2
                    go_wp2_with (go_at_call 214; refine (HLow.out _ _).mono ?_; rintro r w1 ⟨rfl, rfl⟩)
                    rw [HQ.out, HV.out, HK.out]
                    exact ⟨rfl, HWB.out⟩
                  · have e1 : decide (97 ≤ lc) = false := by simpa using h2a
                    clear h2
                    go_wp2_with (go_at_call 214; refine (HLow.out _ _).mono ?_; rintro r w1 ⟨rfl, rfl⟩)
                    rw [HQ.out, HV.out, HK.out]
                    exact ⟨rfl, HWB.out⟩
                · have c1 : decide (48 ≤ c) = false := by simpa using h1a
                  clear h1
                  by_cases h2a : 97 ≤ lc
                  · have e1 : decide (97 ≤ lc) = true := by simpa using h2a
                    have h2b : ¬ lc ≤ 122 := fun h => h2 ⟨h2a, h⟩
                    have e2 : decide (lc ≤ 122) = false := by simpa using h2b
                    clear h2
                    go_wp2_with (go_at_call 214; refine (HLow.out _ _).mono ?_; rintro r w1 ⟨rfl, rfl⟩)
                    rw [HQ.out, HV.out, HK.out]
                    exact ⟨rfl, HWB.out⟩
                  · have e1 : decide (97 ≤ lc) = false := by simpa using h2a
                    clear h2
                    go_wp2_with (go_at_call 214; refine (HLow.out _ _).mono ?_; rintro r w1 ⟨rfl, rfl⟩)
                    rw [HQ.out, HV.out, HK.out]
                    exact ⟨rfl, HWB.out⟩
        · have hz := HEx.out.done (by unfold puStep; rw [if_neg hk])
          subst hz
          have hk2 : (T.size : Int) ≤ k := by omega
          have hout : (V, K) = if (us && !uOK s) = true then (0, 2) else (n, 0) := by
            rw [HVK.out]
            unfold puOut
            rw [if_neg hk]
          have HOut := Lib.hid hout
          clear hout
          cases us
          · have hout := HOut.out
            injection hout with hv hkk
            have HV := Lib.hid hv
            have HK := Lib.hid hkk
            clear hv hkk
            go_wp2_with fail
            rw [HQ.out, HV.out, HK.out]
            exact ⟨rfl, HWB.out⟩
          · obtain ⟨uu, huu⟩ : ∃ b, b = uOK s := ⟨_, rfl⟩
            have HU2 := HU.out
            rw [← huu] at HOut HU2
            have HU3 := Lib.hid HU2
            clear HU2 huu
            cases uu
            all_goals
              have hout := HOut.out
              injection hout with hv hkk
              have HV := Lib.hid hv
              have HK := Lib.hid hkk
              clear hv hkk
              go_wp2_with (go_at_call 215; refine (HU3.out _).mono ?_; rintro r w1 ⟨rfl, rfl⟩)
              rw [HQ.out, HV.out, HK.out]
              exact ⟨rfl, HWB.out⟩
theorem pu_empty (s : ByteArray) (h0 : s.size = 0) (w : World) : Calls Tryz.prog 189 #[.string s, .int .i64 0, .int .i64 0] w (UintPost w 0 2) := by
  have he : s = ByteArray.empty := by
    obtain ⟨⟨l⟩⟩ := s
    have : l = [] := List.eq_nil_of_length_eq_zero h0
    rw [this]
    rfl
  subst he
  go_enter Tryz.func189, Tryz.ntmps189
  go_wp2_with fail
  go_ret2
  exact ⟨rfl, Below.refl _ _⟩
/-- internal/strconv.ParseUint at base 0: total; its answers hang on the text alone. -/
theorem parseUintIn_any (s : ByteArray) (hs : (s.size : Int) ≤ 1000000) : ∃ (v : Int) (k : Nat), 0 ≤ v ∧ v < 18446744073709551616 ∧ k ≤ 2 ∧ ∀ w, Calls Tryz.prog 189 #[.string s, .int .i64 0, .int .i64 0] w (UintPost w v k) := by
  by_cases h0 : s.size = 0
  · exact ⟨0, 2, by omega, by omega, by omega, fun w => pu_empty s h0 w⟩
  · have hB : 0 ≤ (puB s).1 := by have := puB_in s; omega
    obtain ⟨Z, hE, hI, hN⟩ := ends_some (step := puStep (puB s).1 (puCO (puB s).1) (puT s)) (PUI (puT s)) (fun x => (puT s).size - x.k) (pu_keep _ _ hB _) _ ⟨0, false, 0⟩ (Nat.le_refl _) ⟨Nat.zero_le _, by show (0 : Int) ≤ 0; omega, by show (0 : Int) < 18446744073709551616; omega⟩
    have hv : 0 ≤ (puOut (puB s).1 s (puT s) Z).1 ∧ (puOut (puB s).1 s (puT s) Z).1 < 18446744073709551616 ∧ (puOut (puB s).1 s (puT s) Z).2 ≤ 2 := by
      have h1 := hI.n0
      have h2 := hI.n1
      unfold puOut
      (repeat' split) <;> exact ⟨by dsimp only; omega, by dsimp only; omega, by dsimp only; omega⟩
    exact ⟨_, _, hv.1, hv.2.1, hv.2.2, fun w => pu_run s hs (by omega) Z hI hE w⟩
end Go.Proofs.YtnggkkdcddpjlaaGreatDoor
