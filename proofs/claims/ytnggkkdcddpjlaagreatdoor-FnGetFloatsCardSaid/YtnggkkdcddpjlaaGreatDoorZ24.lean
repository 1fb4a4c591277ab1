/- internal/strconv.special: total, and its answers hang on the text alone. -/
import Derived.Test.YtnggkkdcddpjlaaGreatDoorZ02
import Derived.OwnWalk
namespace Go.Proofs.YtnggkkdcddpjlaaGreatDoor
open Go.RowKit
set_option maxRecDepth 100000
set_option linter.unusedVariables false
set_option linter.unusedSimpArgs false
theorem fb_inf_pos (w : World) : (callFunc 249 #[.int .u64 9218868437227405312]).run Tryz.prog w = .ok (.value (.float .f64 9218868437227405312)) w := by kernel_rfl
theorem inf_pos (w : World) : Calls Tryz.prog 256 #[.int .i64 1] w fun e w' => e = .returned (.float .f64 9218868437227405312) ∧ w' = w := by
  have hb := fun w => fb_inf_pos w
  go_enter Tryz.func256, Tryz.ntmps256
  go_wp2
  go_ret
  exact ⟨rfl, rfl⟩
theorem fb_inf_neg (w : World) : (callFunc 249 #[.int .u64 18442240474082181120]).run Tryz.prog w = .ok (.value (.float .f64 18442240474082181120)) w := by kernel_rfl
theorem inf_neg (w : World) : Calls Tryz.prog 256 #[.int .i64 (-1)] w fun e w' => e = .returned (.float .f64 18442240474082181120) ∧ w' = w := by
  have hb := fun w => fb_inf_neg w
  go_enter Tryz.func256, Tryz.ntmps256
  go_wp2
  go_ret
  exact ⟨rfl, rfl⟩
theorem fb_nan_run (w : World) : (callFunc 249 #[.int .u64 9221120237041090561]).run Tryz.prog w = .ok (.value (.float .f64 9221120237041090561)) w := by kernel_rfl
theorem nan_run (w : World) : Calls Tryz.prog 257 #[] w fun e w' => e = .returned (.float .f64 9221120237041090561) ∧ w' = w := by
  have hb := fun w => fb_nan_run w
  go_enter Tryz.func257, Tryz.ntmps257
  go_wp2
  go_ret
  exact ⟨rfl, rfl⟩
/-- A letter in small. -/
def lowAZ (c : Int) : Int := if 65 ≤ c ∧ c ≤ 90 then c + 32 else c
structure CP where
  i : Nat
def cpStep (s p : ByteArray) (x : CP) : Option CP :=
  if x.i < min p.size s.size then (if lowAZ (byt s x.i) = byt p x.i then some ⟨x.i + 1⟩ else none) else none
def cpLen (s p : ByteArray) : Nat := (runL (cpStep s p) (min p.size s.size) ⟨0⟩).i
structure CPI (s p : ByteArray) (x : CP) : Prop where
  i : x.i ≤ min p.size s.size
theorem cp_keep (s p : ByteArray) (x y : CP) (h : CPI s p x) (hs : cpStep s p x = some y) : CPI s p y ∧ min p.size s.size - y.i < min p.size s.size - x.i := by
  obtain ⟨a1⟩ := h
  unfold cpStep at hs
  split at hs
  · split at hs
    · simp only [Option.some.injEq] at hs
      subst hs
      refine ⟨⟨?_⟩, ?_⟩ <;> dsimp only <;> omega
    · cases hs
  · cases hs
set_option maxHeartbeats 1000000 in
theorem cp_run (s p : ByteArray) (hs : (s.size : Int) ≤ 1000000) (hp : (p.size : Int) ≤ 8) (w : World) :
    Calls Tryz.prog 255 #[.string s, .string p] w fun e w' => e = .returned (.int .i64 (cpLen s p)) ∧ w' = w := by
  obtain ⟨hE, hI, hN⟩ := runL_ends (step := cpStep s p) (CPI s p) (fun x => min p.size s.size - x.i) (cp_keep s p) (min p.size s.size) ⟨0⟩ (Nat.sub_le _ _) ⟨Nat.zero_le _⟩
  obtain ⟨⟨zi⟩, hz⟩ : ∃ z, z = runL (cpStep s p) (min p.size s.size) ⟨0⟩ := ⟨_, rfl⟩
  have hL : cpLen s p = zi := by unfold cpLen; rw [← hz]
  rw [← hz] at hE hI hN
  rw [hL]
  have HE := Lib.hid hE
  have hzi : zi ≤ min p.size s.size := hI.i
  clear hE hI hN hz hL
  have HS := Lib.hid (fun k (h : k < s.size) => byt_at h)
  have HPP := Lib.hid (fun k (h : k < p.size) => byt_at h)
  have hmin : min (p.size : Int) (s.size : Int) = (min p.size s.size : Nat) := by omega
  obtain ⟨m, hm⟩ : ∃ m, m = min p.size s.size := ⟨_, rfl⟩
  rw [← hm] at hmin hzi
  have HM := Lib.hid hm
  have hm1 : m ≤ p.size := by omega
  have hm2 : m ≤ s.size := by omega
  clear hm
  obtain ⟨Q, hQ⟩ : ∃ Q : Ending → World → Prop, Q = fun e w' => e = .returned (.int .i64 zi) ∧ w' = w := ⟨_, rfl⟩
  rw [← hQ]
  have HQ := Lib.hid hQ
  clear hQ
  go_enter Tryz.func255, Tryz.ntmps255
  go_upto_block 0 with fail
  go_wp2_with fail
  go_loop [6] (fun i => ∃ x : CP, CPI s p x ∧ Ends (cpStep s p) x ⟨zi⟩ ∧ i = .int .i64 x.i) (fun i => m - (intOf i).toNat)
  case atStart => exact ⟨⟨0⟩, ⟨Nat.zero_le _⟩, HE.out, rfl⟩
  case round =>
    obtain ⟨⟨k⟩, hI, hEx, rfl⟩ := hrel
    have HEx := Lib.hid hEx
    have a1 : k ≤ m := by have h := hI.i; rw [HM.out]; exact h
    clear hI hEx
    by_cases hk : k < m
    · have hb1 := HS.out k (by omega)
      have hb2 := HPP.out k (by omega)
      have hc := byt_in s k
      have hk2 : (k : Int) < m := by omega
      have hk3 : k < s.size := by omega
      have hk4 : k < p.size := by omega
      obtain ⟨c, hcc⟩ : ∃ c, byt s k = c := ⟨_, rfl⟩
      obtain ⟨d, hdd⟩ : ∃ d, byt p k = d := ⟨_, rfl⟩
      rw [hcc] at hb1 hc
      rw [hdd] at hb2
      have HC := Lib.hid hcc
      have HD := Lib.hid hdd
      have hstep : Hid (cpStep s p ⟨k⟩ = if lowAZ c = d then some ⟨k + 1⟩ else none) := Lib.hid (by
        unfold cpStep
        dsimp only
        rw [if_pos (by rw [← HM.out]; exact hk), HC.out, HD.out])
      clear hcc hdd
      by_cases hup : 65 ≤ c ∧ c ≤ 90
      · obtain ⟨u1, u2⟩ := hup
        have hlo : lowAZ c = c + 32 := by unfold lowAZ; rw [if_pos ⟨u1, u2⟩]
        rw [hlo] at hstep
        go_wp2_with fail
        all_goals (try simp only [beq_iff_eq, beq_eq_false_iff_ne, bne_iff_ne, bne_eq_false_iff_eq, ne_eq] at *)
        all_goals first
          | (rw [HQ.out]
             have hz := HEx.out.done (by rw [hstep.out, if_neg (by omega)])
             cases hz
             exact ⟨rfl, rfl⟩)
          | exact ⟨⟨⟨k + 1⟩, ⟨by rw [← HM.out]; exact hk⟩, HEx.out.next (by rw [hstep.out, if_pos (by omega)]), by simp⟩, by simp [intOf]; omega⟩
      · have hlo : lowAZ c = c := by unfold lowAZ; rw [if_neg hup]
        rw [hlo] at hstep
        go_wp2_with fail
        all_goals (try simp only [beq_iff_eq, beq_eq_false_iff_ne, bne_iff_ne, bne_eq_false_iff_eq, ne_eq] at *)
        all_goals first
          | (rw [HQ.out]
             have hz := HEx.out.done (by rw [hstep.out, if_neg (by omega)])
             cases hz
             exact ⟨rfl, rfl⟩)
          | exact ⟨⟨⟨k + 1⟩, ⟨by rw [← HM.out]; exact hk⟩, HEx.out.next (by rw [hstep.out, if_pos (by omega)]), by simp⟩, by simp [intOf]; omega⟩
    · have hz := HEx.out.done (by
        unfold cpStep
        dsimp only
        rw [if_neg (by rw [← HM.out]; exact hk)])
      cases hz
      go_wp2_with fail
      rw [HQ.out]
      obtain rfl : zi = m := by omega
      exact ⟨rfl, rfl⟩
def infT : ByteArray := ⟨#[105, 110, 102, 105, 110, 105, 116, 121]⟩
def nanT : ByteArray := ⟨#[110, 97, 110]⟩
set_option maxHeartbeats 4000000 in
/-- internal/strconv.special: total; its answers hang on the text alone. -/
theorem special_any (s : ByteArray) (hs : (s.size : Int) ≤ 1000000) : ∃ (f n : Nat) (ok : Bool), (f = 0 ∨ f = 9218868437227405312 ∨ f = 18442240474082181120 ∨ f = 9221120237041090561) ∧ ∀ w, Calls Tryz.prog 239 #[.string s] w fun e w' => e = .returned (.tuple #[.float .f64 f, .int .i64 n, .bool ok]) ∧ w' = w := by
  by_cases h0 : s.size = 0
  · have e0 : (s.size : Int) = 0 := by omega
    refine ⟨0, 0, false, by decide, fun w => ?_⟩
    go_enter Tryz.func239, Tryz.ntmps239
    go_wp2_with (first | (go_at_call 255; refine (HC.out _).mono ?_; rintro r w1 ⟨rfl, rfl⟩) | (go_at_call 256; first | (refine (inf_pos _).mono ?_; rintro r w2 ⟨rfl, rfl⟩) | (refine (inf_neg _).mono ?_; rintro r w2 ⟨rfl, rfl⟩)) | (go_at_call 257; refine (nan_run _).mono ?_; rintro r w2 ⟨rfl, rfl⟩))
    all_goals go_ret3
    all_goals exact ⟨rfl, rfl⟩
  · have e0 : ((s.size : Int) == 0) = false := by rw [beq_eq_false_iff_ne]; omega
    have e1 : 1 ≤ s.size := by omega
    have e2 : 0 < s.size := e1
    have ebyt := byt_at e2
    have hT : ((s.extract 1 s.size).size : Int) ≤ 1000000 := by rw [ByteArray.size_extract]; omega
    obtain ⟨c, hc⟩ : ∃ c, byt s 0 = c := ⟨_, rfl⟩
    rw [hc] at ebyt
    by_cases h43 : c = 43
    · subst h43
      have hC := fun w => cp_run (s.extract 1 s.size) infT hT (by decide) w
      obtain ⟨n, hn⟩ : ∃ n, cpLen (s.extract 1 s.size) infT = n := ⟨_, rfl⟩
      rw [hn] at hC
      have HC := Lib.hid hC
      clear hC hn hc
      by_cases h3 : n = 3
      · subst h3
        refine ⟨9218868437227405312, 4, true, by decide, fun w => ?_⟩
        go_enter Tryz.func239, Tryz.ntmps239
        go_wp2_with (first | (go_at_call 255; refine (HC.out _).mono ?_; rintro r w1 ⟨rfl, rfl⟩) | (go_at_call 256; first | (refine (inf_pos _).mono ?_; rintro r w2 ⟨rfl, rfl⟩) | (refine (inf_neg _).mono ?_; rintro r w2 ⟨rfl, rfl⟩)) | (go_at_call 257; refine (nan_run _).mono ?_; rintro r w2 ⟨rfl, rfl⟩))
        all_goals go_ret3
        all_goals exact ⟨rfl, rfl⟩
      · by_cases h8 : n = 8
        · subst h8
          refine ⟨9218868437227405312, 9, true, by decide, fun w => ?_⟩
          go_enter Tryz.func239, Tryz.ntmps239
          go_wp2_with (first | (go_at_call 255; refine (HC.out _).mono ?_; rintro r w1 ⟨rfl, rfl⟩) | (go_at_call 256; first | (refine (inf_pos _).mono ?_; rintro r w2 ⟨rfl, rfl⟩) | (refine (inf_neg _).mono ?_; rintro r w2 ⟨rfl, rfl⟩)) | (go_at_call 257; refine (nan_run _).mono ?_; rintro r w2 ⟨rfl, rfl⟩))
          all_goals go_ret3
          all_goals exact ⟨rfl, rfl⟩
        · by_cases hb : 3 < n ∧ n < 8
          · obtain ⟨b1, b2⟩ := hb
            have b3 : (3 : Int) < n := by omega
            have b4 : (n : Int) < 8 := by omega
            refine ⟨9218868437227405312, 4, true, by decide, fun w => ?_⟩
            go_enter Tryz.func239, Tryz.ntmps239
            go_wp2_with (first | (go_at_call 255; refine (HC.out _).mono ?_; rintro r w1 ⟨rfl, rfl⟩) | (go_at_call 256; first | (refine (inf_pos _).mono ?_; rintro r w2 ⟨rfl, rfl⟩) | (refine (inf_neg _).mono ?_; rintro r w2 ⟨rfl, rfl⟩)) | (go_at_call 257; refine (nan_run _).mono ?_; rintro r w2 ⟨rfl, rfl⟩))
            all_goals go_ret3
            all_goals exact ⟨rfl, rfl⟩
          · have b1 : ((n : Int) == 3) = false := by simp; omega
            have b2 : ((n : Int) == 8) = false := by simp; omega
            by_cases hlt : (3 : Int) < n
            · have b3 : ¬ (n : Int) < 8 := by omega
              refine ⟨0, 0, false, by decide, fun w => ?_⟩
              go_enter Tryz.func239, Tryz.ntmps239
              go_wp2_with (first | (go_at_call 255; refine (HC.out _).mono ?_; rintro r w1 ⟨rfl, rfl⟩) | (go_at_call 256; first | (refine (inf_pos _).mono ?_; rintro r w2 ⟨rfl, rfl⟩) | (refine (inf_neg _).mono ?_; rintro r w2 ⟨rfl, rfl⟩)) | (go_at_call 257; refine (nan_run _).mono ?_; rintro r w2 ⟨rfl, rfl⟩))
              all_goals go_ret3
              all_goals exact ⟨rfl, rfl⟩
            ·
              refine ⟨0, 0, false, by decide, fun w => ?_⟩
              go_enter Tryz.func239, Tryz.ntmps239
              go_wp2_with (first | (go_at_call 255; refine (HC.out _).mono ?_; rintro r w1 ⟨rfl, rfl⟩) | (go_at_call 256; first | (refine (inf_pos _).mono ?_; rintro r w2 ⟨rfl, rfl⟩) | (refine (inf_neg _).mono ?_; rintro r w2 ⟨rfl, rfl⟩)) | (go_at_call 257; refine (nan_run _).mono ?_; rintro r w2 ⟨rfl, rfl⟩))
              all_goals go_ret3
              all_goals exact ⟨rfl, rfl⟩
    · have b43 : (c == 43) = false := by simpa using h43
      by_cases h45 : c = 45
      · subst h45
        have hC := fun w => cp_run (s.extract 1 s.size) infT hT (by decide) w
        obtain ⟨n, hn⟩ : ∃ n, cpLen (s.extract 1 s.size) infT = n := ⟨_, rfl⟩
        rw [hn] at hC
        have HC := Lib.hid hC
        clear hC hn hc
        by_cases h3 : n = 3
        · subst h3
          refine ⟨18442240474082181120, 4, true, by decide, fun w => ?_⟩
          go_enter Tryz.func239, Tryz.ntmps239
          go_wp2_with (first | (go_at_call 255; refine (HC.out _).mono ?_; rintro r w1 ⟨rfl, rfl⟩) | (go_at_call 256; first | (refine (inf_pos _).mono ?_; rintro r w2 ⟨rfl, rfl⟩) | (refine (inf_neg _).mono ?_; rintro r w2 ⟨rfl, rfl⟩)) | (go_at_call 257; refine (nan_run _).mono ?_; rintro r w2 ⟨rfl, rfl⟩))
          all_goals go_ret3
          all_goals exact ⟨rfl, rfl⟩
        · by_cases h8 : n = 8
          · subst h8
            refine ⟨18442240474082181120, 9, true, by decide, fun w => ?_⟩
            go_enter Tryz.func239, Tryz.ntmps239
            go_wp2_with (first | (go_at_call 255; refine (HC.out _).mono ?_; rintro r w1 ⟨rfl, rfl⟩) | (go_at_call 256; first | (refine (inf_pos _).mono ?_; rintro r w2 ⟨rfl, rfl⟩) | (refine (inf_neg _).mono ?_; rintro r w2 ⟨rfl, rfl⟩)) | (go_at_call 257; refine (nan_run _).mono ?_; rintro r w2 ⟨rfl, rfl⟩))
            all_goals go_ret3
            all_goals exact ⟨rfl, rfl⟩
          · by_cases hb : 3 < n ∧ n < 8
            · obtain ⟨b1, b2⟩ := hb
              have b3 : (3 : Int) < n := by omega
              have b4 : (n : Int) < 8 := by omega
              refine ⟨18442240474082181120, 4, true, by decide, fun w => ?_⟩
              go_enter Tryz.func239, Tryz.ntmps239
              go_wp2_with (first | (go_at_call 255; refine (HC.out _).mono ?_; rintro r w1 ⟨rfl, rfl⟩) | (go_at_call 256; first | (refine (inf_pos _).mono ?_; rintro r w2 ⟨rfl, rfl⟩) | (refine (inf_neg _).mono ?_; rintro r w2 ⟨rfl, rfl⟩)) | (go_at_call 257; refine (nan_run _).mono ?_; rintro r w2 ⟨rfl, rfl⟩))
              all_goals go_ret3
              all_goals exact ⟨rfl, rfl⟩
            · have b1 : ((n : Int) == 3) = false := by simp; omega
              have b2 : ((n : Int) == 8) = false := by simp; omega
              by_cases hlt : (3 : Int) < n
              · have b3 : ¬ (n : Int) < 8 := by omega
                refine ⟨0, 0, false, by decide, fun w => ?_⟩
                go_enter Tryz.func239, Tryz.ntmps239
                go_wp2_with (first | (go_at_call 255; refine (HC.out _).mono ?_; rintro r w1 ⟨rfl, rfl⟩) | (go_at_call 256; first | (refine (inf_pos _).mono ?_; rintro r w2 ⟨rfl, rfl⟩) | (refine (inf_neg _).mono ?_; rintro r w2 ⟨rfl, rfl⟩)) | (go_at_call 257; refine (nan_run _).mono ?_; rintro r w2 ⟨rfl, rfl⟩))
                all_goals go_ret3
                all_goals exact ⟨rfl, rfl⟩
              ·
                refine ⟨0, 0, false, by decide, fun w => ?_⟩
                go_enter Tryz.func239, Tryz.ntmps239
                go_wp2_with (first | (go_at_call 255; refine (HC.out _).mono ?_; rintro r w1 ⟨rfl, rfl⟩) | (go_at_call 256; first | (refine (inf_pos _).mono ?_; rintro r w2 ⟨rfl, rfl⟩) | (refine (inf_neg _).mono ?_; rintro r w2 ⟨rfl, rfl⟩)) | (go_at_call 257; refine (nan_run _).mono ?_; rintro r w2 ⟨rfl, rfl⟩))
                all_goals go_ret3
                all_goals exact ⟨rfl, rfl⟩
      · have b45 : (c == 45) = false := by simpa using h45
        by_cases h105 : c = 105
        · subst h105
          have hC := fun w => cp_run s infT hs (by decide) w
          obtain ⟨n, hn⟩ : ∃ n, cpLen s infT = n := ⟨_, rfl⟩
          rw [hn] at hC
          have HC := Lib.hid hC
          clear hC hn hc
          by_cases h3 : n = 3
          · subst h3
            refine ⟨9218868437227405312, 3, true, by decide, fun w => ?_⟩
            go_enter Tryz.func239, Tryz.ntmps239
            go_wp2_with (first | (go_at_call 255; refine (HC.out _).mono ?_; rintro r w1 ⟨rfl, rfl⟩) | (go_at_call 256; first | (refine (inf_pos _).mono ?_; rintro r w2 ⟨rfl, rfl⟩) | (refine (inf_neg _).mono ?_; rintro r w2 ⟨rfl, rfl⟩)) | (go_at_call 257; refine (nan_run _).mono ?_; rintro r w2 ⟨rfl, rfl⟩))
            all_goals go_ret3
            all_goals exact ⟨rfl, rfl⟩
          · by_cases h8 : n = 8
            · subst h8
              refine ⟨9218868437227405312, 8, true, by decide, fun w => ?_⟩
              go_enter Tryz.func239, Tryz.ntmps239
              go_wp2_with (first | (go_at_call 255; refine (HC.out _).mono ?_; rintro r w1 ⟨rfl, rfl⟩) | (go_at_call 256; first | (refine (inf_pos _).mono ?_; rintro r w2 ⟨rfl, rfl⟩) | (refine (inf_neg _).mono ?_; rintro r w2 ⟨rfl, rfl⟩)) | (go_at_call 257; refine (nan_run _).mono ?_; rintro r w2 ⟨rfl, rfl⟩))
              all_goals go_ret3
              all_goals exact ⟨rfl, rfl⟩
            · by_cases hb : 3 < n ∧ n < 8
              · obtain ⟨b1, b2⟩ := hb
                have b3 : (3 : Int) < n := by omega
                have b4 : (n : Int) < 8 := by omega
                refine ⟨9218868437227405312, 3, true, by decide, fun w => ?_⟩
                go_enter Tryz.func239, Tryz.ntmps239
                go_wp2_with (first | (go_at_call 255; refine (HC.out _).mono ?_; rintro r w1 ⟨rfl, rfl⟩) | (go_at_call 256; first | (refine (inf_pos _).mono ?_; rintro r w2 ⟨rfl, rfl⟩) | (refine (inf_neg _).mono ?_; rintro r w2 ⟨rfl, rfl⟩)) | (go_at_call 257; refine (nan_run _).mono ?_; rintro r w2 ⟨rfl, rfl⟩))
                all_goals go_ret3
                all_goals exact ⟨rfl, rfl⟩
              · have b1 : ((n : Int) == 3) = false := by simp; omega
                have b2 : ((n : Int) == 8) = false := by simp; omega
                by_cases hlt : (3 : Int) < n
                · have b3 : ¬ (n : Int) < 8 := by omega
                  refine ⟨0, 0, false, by decide, fun w => ?_⟩
                  go_enter Tryz.func239, Tryz.ntmps239
                  go_wp2_with (first | (go_at_call 255; refine (HC.out _).mono ?_; rintro r w1 ⟨rfl, rfl⟩) | (go_at_call 256; first | (refine (inf_pos _).mono ?_; rintro r w2 ⟨rfl, rfl⟩) | (refine (inf_neg _).mono ?_; rintro r w2 ⟨rfl, rfl⟩)) | (go_at_call 257; refine (nan_run _).mono ?_; rintro r w2 ⟨rfl, rfl⟩))
                  all_goals go_ret3
                  all_goals exact ⟨rfl, rfl⟩
                ·
                  refine ⟨0, 0, false, by decide, fun w => ?_⟩
                  go_enter Tryz.func239, Tryz.ntmps239
                  go_wp2_with (first | (go_at_call 255; refine (HC.out _).mono ?_; rintro r w1 ⟨rfl, rfl⟩) | (go_at_call 256; first | (refine (inf_pos _).mono ?_; rintro r w2 ⟨rfl, rfl⟩) | (refine (inf_neg _).mono ?_; rintro r w2 ⟨rfl, rfl⟩)) | (go_at_call 257; refine (nan_run _).mono ?_; rintro r w2 ⟨rfl, rfl⟩))
                  all_goals go_ret3
                  all_goals exact ⟨rfl, rfl⟩
        · have b105 : (c == 105) = false := by simpa using h105
          by_cases h73 : c = 73
          · subst h73
            have hC := fun w => cp_run s infT hs (by decide) w
            obtain ⟨n, hn⟩ : ∃ n, cpLen s infT = n := ⟨_, rfl⟩
            rw [hn] at hC
            have HC := Lib.hid hC
            clear hC hn hc
            by_cases h3 : n = 3
            · subst h3
              refine ⟨9218868437227405312, 3, true, by decide, fun w => ?_⟩
              go_enter Tryz.func239, Tryz.ntmps239
              go_wp2_with (first | (go_at_call 255; refine (HC.out _).mono ?_; rintro r w1 ⟨rfl, rfl⟩) | (go_at_call 256; first | (refine (inf_pos _).mono ?_; rintro r w2 ⟨rfl, rfl⟩) | (refine (inf_neg _).mono ?_; rintro r w2 ⟨rfl, rfl⟩)) | (go_at_call 257; refine (nan_run _).mono ?_; rintro r w2 ⟨rfl, rfl⟩))
              all_goals go_ret3
              all_goals exact ⟨rfl, rfl⟩
            · by_cases h8 : n = 8
              · subst h8
                refine ⟨9218868437227405312, 8, true, by decide, fun w => ?_⟩
                go_enter Tryz.func239, Tryz.ntmps239
                go_wp2_with (first | (go_at_call 255; refine (HC.out _).mono ?_; rintro r w1 ⟨rfl, rfl⟩) | (go_at_call 256; first | (refine (inf_pos _).mono ?_; rintro r w2 ⟨rfl, rfl⟩) | (refine (inf_neg _).mono ?_; rintro r w2 ⟨rfl, rfl⟩)) | (go_at_call 257; refine (nan_run _).mono ?_; rintro r w2 ⟨rfl, rfl⟩))
                all_goals go_ret3
                all_goals exact ⟨rfl, rfl⟩
              · by_cases hb : 3 < n ∧ n < 8
                · obtain ⟨b1, b2⟩ := hb
                  have b3 : (3 : Int) < n := by omega
                  have b4 : (n : Int) < 8 := by omega
                  refine ⟨9218868437227405312, 3, true, by decide, fun w => ?_⟩
                  go_enter Tryz.func239, Tryz.ntmps239
                  go_wp2_with (first | (go_at_call 255; refine (HC.out _).mono ?_; rintro r w1 ⟨rfl, rfl⟩) | (go_at_call 256; first | (refine (inf_pos _).mono ?_; rintro r w2 ⟨rfl, rfl⟩) | (refine (inf_neg _).mono ?_; rintro r w2 ⟨rfl, rfl⟩)) | (go_at_call 257; refine (nan_run _).mono ?_; rintro r w2 ⟨rfl, rfl⟩))
                  all_goals go_ret3
                  all_goals exact ⟨rfl, rfl⟩
                · have b1 : ((n : Int) == 3) = false := by simp; omega
                  have b2 : ((n : Int) == 8) = false := by simp; omega
                  by_cases hlt : (3 : Int) < n
                  · have b3 : ¬ (n : Int) < 8 := by omega
                    refine ⟨0, 0, false, by decide, fun w => ?_⟩
                    go_enter Tryz.func239, Tryz.ntmps239
                    go_wp2_with (first | (go_at_call 255; refine (HC.out _).mono ?_; rintro r w1 ⟨rfl, rfl⟩) | (go_at_call 256; first | (refine (inf_pos _).mono ?_; rintro r w2 ⟨rfl, rfl⟩) | (refine (inf_neg _).mono ?_; rintro r w2 ⟨rfl, rfl⟩)) | (go_at_call 257; refine (nan_run _).mono ?_; rintro r w2 ⟨rfl, rfl⟩))
                    all_goals go_ret3
                    all_goals exact ⟨rfl, rfl⟩
                  ·
                    refine ⟨0, 0, false, by decide, fun w => ?_⟩
                    go_enter Tryz.func239, Tryz.ntmps239
                    go_wp2_with (first | (go_at_call 255; refine (HC.out _).mono ?_; rintro r w1 ⟨rfl, rfl⟩) | (go_at_call 256; first | (refine (inf_pos _).mono ?_; rintro r w2 ⟨rfl, rfl⟩) | (refine (inf_neg _).mono ?_; rintro r w2 ⟨rfl, rfl⟩)) | (go_at_call 257; refine (nan_run _).mono ?_; rintro r w2 ⟨rfl, rfl⟩))
                    all_goals go_ret3
                    all_goals exact ⟨rfl, rfl⟩
          · have b73 : (c == 73) = false := by simpa using h73
            by_cases h110 : c = 110
            · subst h110
              have hC := fun w => cp_run s nanT hs (by decide) w
              obtain ⟨n, hn⟩ : ∃ n, cpLen s nanT = n := ⟨_, rfl⟩
              rw [hn] at hC
              have HC := Lib.hid hC
              clear hC hn hc
              by_cases h3 : n = 3
              · subst h3
                refine ⟨9221120237041090561, 3, true, by decide, fun w => ?_⟩
                go_enter Tryz.func239, Tryz.ntmps239
                go_wp2_with (first | (go_at_call 255; refine (HC.out _).mono ?_; rintro r w1 ⟨rfl, rfl⟩) | (go_at_call 256; first | (refine (inf_pos _).mono ?_; rintro r w2 ⟨rfl, rfl⟩) | (refine (inf_neg _).mono ?_; rintro r w2 ⟨rfl, rfl⟩)) | (go_at_call 257; refine (nan_run _).mono ?_; rintro r w2 ⟨rfl, rfl⟩))
                all_goals go_ret3
                all_goals exact ⟨rfl, rfl⟩
              · have b1 : ((n : Int) == 3) = false := by simp; omega
                refine ⟨0, 0, false, by decide, fun w => ?_⟩
                go_enter Tryz.func239, Tryz.ntmps239
                go_wp2_with (first | (go_at_call 255; refine (HC.out _).mono ?_; rintro r w1 ⟨rfl, rfl⟩) | (go_at_call 256; first | (refine (inf_pos _).mono ?_; rintro r w2 ⟨rfl, rfl⟩) | (refine (inf_neg _).mono ?_; rintro r w2 ⟨rfl, rfl⟩)) | (go_at_call 257; refine (nan_run _).mono ?_; rintro r w2 ⟨rfl, rfl⟩))
                all_goals go_ret3
                all_goals exact ⟨rfl, rfl⟩
            · have b110 : (c == 110) = false := by simpa using h110
              by_cases h78 : c = 78
              · subst h78
                have hC := fun w => cp_run s nanT hs (by decide) w
                obtain ⟨n, hn⟩ : ∃ n, cpLen s nanT = n := ⟨_, rfl⟩
                rw [hn] at hC
                have HC := Lib.hid hC
                clear hC hn hc
                by_cases h3 : n = 3
                · subst h3
                  refine ⟨9221120237041090561, 3, true, by decide, fun w => ?_⟩
                  go_enter Tryz.func239, Tryz.ntmps239
                  go_wp2_with (first | (go_at_call 255; refine (HC.out _).mono ?_; rintro r w1 ⟨rfl, rfl⟩) | (go_at_call 256; first | (refine (inf_pos _).mono ?_; rintro r w2 ⟨rfl, rfl⟩) | (refine (inf_neg _).mono ?_; rintro r w2 ⟨rfl, rfl⟩)) | (go_at_call 257; refine (nan_run _).mono ?_; rintro r w2 ⟨rfl, rfl⟩))
                  all_goals go_ret3
                  all_goals exact ⟨rfl, rfl⟩
                · have b1 : ((n : Int) == 3) = false := by simp; omega
                  refine ⟨0, 0, false, by decide, fun w => ?_⟩
                  go_enter Tryz.func239, Tryz.ntmps239
                  go_wp2_with (first | (go_at_call 255; refine (HC.out _).mono ?_; rintro r w1 ⟨rfl, rfl⟩) | (go_at_call 256; first | (refine (inf_pos _).mono ?_; rintro r w2 ⟨rfl, rfl⟩) | (refine (inf_neg _).mono ?_; rintro r w2 ⟨rfl, rfl⟩)) | (go_at_call 257; refine (nan_run _).mono ?_; rintro r w2 ⟨rfl, rfl⟩))
                  all_goals go_ret3
                  all_goals exact ⟨rfl, rfl⟩
              · have b78 : (c == 78) = false := by simpa using h78
                clear hc
                refine ⟨0, 0, false, by decide, fun w => ?_⟩
                go_enter Tryz.func239, Tryz.ntmps239
                go_wp2_with (first | (go_at_call 255; refine (HC.out _).mono ?_; rintro r w1 ⟨rfl, rfl⟩) | (go_at_call 256; first | (refine (inf_pos _).mono ?_; rintro r w2 ⟨rfl, rfl⟩) | (refine (inf_neg _).mono ?_; rintro r w2 ⟨rfl, rfl⟩)) | (go_at_call 257; refine (nan_run _).mono ?_; rintro r w2 ⟨rfl, rfl⟩))
                all_goals go_ret3
                all_goals exact ⟨rfl, rfl⟩
end Go.Proofs.YtnggkkdcddpjlaaGreatDoor
