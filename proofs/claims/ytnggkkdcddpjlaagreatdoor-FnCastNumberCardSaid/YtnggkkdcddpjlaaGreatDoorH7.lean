/- strconv's decimal: floatBits, whole. -/
import Derived.Test.YtnggkkdcddpjlaaGreatDoorH6
namespace Go.Proofs.YtnggkkdcddpjlaaGreatDoor
open Go.RowKit
set_option maxRecDepth 100000
set_option linter.unusedVariables false
set_option linter.unusedSimpArgs false
set_option maxHeartbeats 1000000 in
theorem fb_zero (x : Dec) (hx : x.nd = 0) (B b : Nat) (w : World) (hF : FltAt w 6 52 11 (-1023)) (h : DecAt w b x) : Calls Tryz.prog 247 #[.pointer (some ⟨b, 0, none⟩), .pointer (some ⟨6, 0, none⟩)] w (FbPost B w (fbV x.ng 0 0) false) := by
  obtain ⟨NG, hNG⟩ : ∃ b, b = x.ng := ⟨_, rfl⟩
  have hng := h.ng
  rw [← hNG] at hng ⊢
  obtain ⟨v, hv⟩ : ∃ v, v = fbV NG 0 0 := ⟨_, rfl⟩
  obtain ⟨o, ho⟩ : ∃ o, o = false := ⟨_, rfl⟩
  rw [← hv, ← ho]
  have HV := Lib.hid hv
  have HO := Lib.hid ho
  obtain ⟨Q, hQ⟩ : ∃ Q, Q = FbPost B w v o := ⟨_, rfl⟩
  rw [← hQ]
  have HQ := Lib.hid hQ
  have hnd := h.nd
  have hdp := h.dp
  have hmb := hF.mb
  have heb := hF.eb
  have hbi := hF.bi
  rw [hx] at hnd
  clear hQ h hF hNG hv ho
  go_enter Tryz.func247, Tryz.ntmps247
  go_wp2_with fail
  refine wp_scope_name 2 (fun K HK => ?_)
  go_wp2_with fail
  go_step3
  change K (Exit.goto 0) _ _
  refine scoped_jump HK _ rfl (fun K8 HK8 => ?_)
  go_wp2_with fail
  go_quiet (fail)
  cases NG
  · go_wp2_with fail
    refine scoped_ret HK8 ?_
    refine bodyPost_ret (v := .tuple #[.int .u64 v, .bool o]) ?_ rfl ?_
    · rw [HV.out, HO.out]
      simp [results, Tryz.results247, go_sem, fbV]
    · rw [HQ.out]
      exact ⟨rfl, (by first | exact Below.refl _ _ | exact below_dn (Below.refl _ _) _ | exact below_dn (below_dn (Below.refl _ _) _) _ | exact below_dn (below_dn (below_dn (Below.refl _ _) _) _) _)⟩
  · go_wp2_with fail
    go_quiet (fail)
    go_wp2_with fail
    refine scoped_ret HK8 ?_
    refine bodyPost_ret (v := .tuple #[.int .u64 v, .bool o]) ?_ rfl ?_
    · rw [HV.out, HO.out]
      simp [results, Tryz.results247, go_sem, fbV]
    · rw [HQ.out]
      exact ⟨rfl, (by first | exact Below.refl _ _ | exact below_dn (Below.refl _ _) _ | exact below_dn (below_dn (Below.refl _ _) _) _ | exact below_dn (below_dn (below_dn (Below.refl _ _) _) _) _)⟩
set_option maxHeartbeats 1000000 in
theorem fb_under (x : Dec) (hx : 0 < x.nd) (hp : x.dp < -330) (B b : Nat) (w : World) (hF : FltAt w 6 52 11 (-1023)) (h : DecAt w b x) : Calls Tryz.prog 247 #[.pointer (some ⟨b, 0, none⟩), .pointer (some ⟨6, 0, none⟩)] w (FbPost B w (fbV x.ng 0 0) false) := by
  obtain ⟨NG, hNG⟩ : ∃ b, b = x.ng := ⟨_, rfl⟩
  have hng := h.ng
  rw [← hNG] at hng ⊢
  obtain ⟨v, hv⟩ : ∃ v, v = fbV NG 0 0 := ⟨_, rfl⟩
  obtain ⟨o, ho⟩ : ∃ o, o = false := ⟨_, rfl⟩
  rw [← hv, ← ho]
  have HV := Lib.hid hv
  have HO := Lib.hid ho
  obtain ⟨Q, hQ⟩ : ∃ Q, Q = FbPost B w v o := ⟨_, rfl⟩
  rw [← hQ]
  have HQ := Lib.hid hQ
  have hnd := h.nd
  have hdp := h.dp
  have hmb := hF.mb
  have heb := hF.eb
  have hbi := hF.bi
  have hne : ((x.nd : Int) == 0) = false := by simp; omega
  have h310 : ¬ (310 : Int) < x.dp := by omega
  clear hQ h hF hNG hv ho
  go_enter Tryz.func247, Tryz.ntmps247
  go_wp2_with fail
  refine wp_scope_name 2 (fun K HK => ?_)
  go_wp2_with fail
  go_step3
  change K (Exit.goto 0) _ _
  refine scoped_jump HK _ rfl (fun K8 HK8 => ?_)
  go_wp2_with fail
  go_quiet (fail)
  cases NG
  · go_wp2_with fail
    refine scoped_ret HK8 ?_
    refine bodyPost_ret (v := .tuple #[.int .u64 v, .bool o]) ?_ rfl ?_
    · rw [HV.out, HO.out]
      simp [results, Tryz.results247, go_sem, fbV]
    · rw [HQ.out]
      exact ⟨rfl, (by first | exact Below.refl _ _ | exact below_dn (Below.refl _ _) _ | exact below_dn (below_dn (Below.refl _ _) _) _ | exact below_dn (below_dn (below_dn (Below.refl _ _) _) _) _)⟩
  · go_wp2_with fail
    go_quiet (fail)
    go_wp2_with fail
    refine scoped_ret HK8 ?_
    refine bodyPost_ret (v := .tuple #[.int .u64 v, .bool o]) ?_ rfl ?_
    · rw [HV.out, HO.out]
      simp [results, Tryz.results247, go_sem, fbV]
    · rw [HQ.out]
      exact ⟨rfl, (by first | exact Below.refl _ _ | exact below_dn (Below.refl _ _) _ | exact below_dn (below_dn (Below.refl _ _) _) _ | exact below_dn (below_dn (below_dn (Below.refl _ _) _) _) _)⟩
set_option maxHeartbeats 1000000 in
theorem fb_over (x : Dec) (hx : 0 < x.nd) (hp : 310 < x.dp) (B b : Nat) (w : World) (hF : FltAt w 6 52 11 (-1023)) (h : DecAt w b x) : Calls Tryz.prog 247 #[.pointer (some ⟨b, 0, none⟩), .pointer (some ⟨6, 0, none⟩)] w (FbPost B w (fbV x.ng 0 2047) true) := by
  obtain ⟨NG, hNG⟩ : ∃ b, b = x.ng := ⟨_, rfl⟩
  have hng := h.ng
  rw [← hNG] at hng ⊢
  obtain ⟨v, hv⟩ : ∃ v, v = fbV NG 0 2047 := ⟨_, rfl⟩
  obtain ⟨o, ho⟩ : ∃ o, o = true := ⟨_, rfl⟩
  rw [← hv, ← ho]
  have HV := Lib.hid hv
  have HO := Lib.hid ho
  obtain ⟨Q, hQ⟩ : ∃ Q, Q = FbPost B w v o := ⟨_, rfl⟩
  rw [← hQ]
  have HQ := Lib.hid hQ
  have hnd := h.nd
  have hdp := h.dp
  have hmb := hF.mb
  have heb := hF.eb
  have hbi := hF.bi
  have hne : ((x.nd : Int) == 0) = false := by simp; omega
  clear hQ h hF hNG hv ho
  go_enter Tryz.func247, Tryz.ntmps247
  go_wp2_with fail
  refine wp_scope_name 2 (fun K HK => ?_)
  go_wp2_with fail
  go_step3
  change K (Exit.goto 1) _ _
  refine scoped_jump HK _ rfl (fun K8 HK8 => ?_)
  go_wp2_with fail
  go_quiet (fail)
  go_wp2_with fail
  go_step3
  go_wp2_with fail
  go_quiet (fail)
  cases NG
  · go_wp2_with fail
    refine scoped_ret HK8 ?_
    refine bodyPost_ret (v := .tuple #[.int .u64 v, .bool o]) ?_ rfl ?_
    · rw [HV.out, HO.out]
      simp [results, Tryz.results247, go_sem, fbV]
    · rw [HQ.out]
      exact ⟨rfl, (by first | exact Below.refl _ _ | exact below_dn (Below.refl _ _) _ | exact below_dn (below_dn (Below.refl _ _) _) _ | exact below_dn (below_dn (below_dn (Below.refl _ _) _) _) _)⟩
  · go_wp2_with fail
    go_quiet (fail)
    go_wp2_with fail
    refine scoped_ret HK8 ?_
    refine bodyPost_ret (v := .tuple #[.int .u64 v, .bool o]) ?_ rfl ?_
    · rw [HV.out, HO.out]
      simp [results, Tryz.results247, go_sem, fbV]
    · rw [HQ.out]
      exact ⟨rfl, (by first | exact Below.refl _ _ | exact below_dn (Below.refl _ _) _ | exact below_dn (below_dn (Below.refl _ _) _) _ | exact below_dn (below_dn (below_dn (Below.refl _ _) _) _) _)⟩
/-- A decimal that set may have made. -/
def DecJ (x : Dec) : Prop := x.nd = 0 ∨ DecI x
theorem bits_in (op : BinOp) (a b : Int) : 0 ≤ bits op .u64 a b ∧ bits op .u64 a b < 18446744073709551616 := by
  have h : ∀ z : Int, 0 ≤ IntKind.u64.wrap z ∧ IntKind.u64.wrap z < 18446744073709551616 := fun z => by rw [IntKind.wrap_u64]; omega
  exact h _
theorem fbV_in (ng : Bool) (m d : Int) : 0 ≤ fbV ng m d ∧ fbV ng m d < 18446744073709551616 := by
  unfold fbV
  split <;> exact bits_in _ _ _
theorem fbRes_in (ng : Bool) (m d : Int) : 0 ≤ (fbRes ng m d).1 ∧ (fbRes ng m d).1 < 18446744073709551616 := by
  unfold fbRes
  (repeat' split) <;> exact fbV_in _ _ _
/-- floatBits at 64 bits: total; its bits hang on the decimal alone. -/
theorem floatBits_any (x : Dec) (hx : DecJ x) : ∃ (v : Int) (o : Bool), 0 ≤ v ∧ v < 18446744073709551616 ∧ ∀ (B b : Nat) (w : World), B ≤ b → 6 < B → FltAt w 6 52 11 (-1023) → Flow B w → DecAt w b x → Calls Tryz.prog 247 #[.pointer (some ⟨b, 0, none⟩), .pointer (some ⟨6, 0, none⟩)] w (FbPost B w v o) := by
  rcases hx with hx | hx
  · exact ⟨_, _, (fbV_in _ _ _).1, (fbV_in _ _ _).2, fun B b w hB h6 hF hT h => fb_zero x hx B b w hF h⟩
  · by_cases h1 : 310 < x.dp
    · exact ⟨_, _, (fbV_in _ _ _).1, (fbV_in _ _ _).2, fun B b w hB h6 hF hT h => fb_over x hx.nd0 h1 B b w hF h⟩
    · by_cases h2 : x.dp < -330
      · exact ⟨_, _, (fbV_in _ _ _).1, (fbV_in _ _ _).2, fun B b w hB h6 hF hT h => fb_under x hx.nd0 h2 B b w hF h⟩
      · obtain ⟨Z1, hE1, hI1, hN1⟩ := ends_some (step := stepR) FRI muR stepR_keep _ ⟨x, 0⟩ (Nat.le_refl _) (stepR_start x hx (by omega) (by omega))
        have hp1 : Z1.x.dp ≤ 0 := by
          unfold stepR at hN1
          split at hN1
          · cases hN1
          · omega
        obtain ⟨Z2, hE2, hI2, hN2⟩ := ends_some (step := stepL chD chL chC) FLI muL (stepL_keep sheet chD_1 chD_3 chD_lo chD_hi) _ Z1 (Nat.le_refl _) (stepL_start Z1 hI1 hp1)
        exact ⟨_, _, (fbRes_in _ _ _).1, (fbRes_in _ _ _).2, fun B b w hB h6 hF hT h => fb_main Z1 Z2 hI1 hN1 hI2 hN2 x hx (by omega) (by omega) hE1 hE2 _ _ rfl B b w hB h6 hF hT h⟩
end Go.Proofs.YtnggkkdcddpjlaaGreatDoor
