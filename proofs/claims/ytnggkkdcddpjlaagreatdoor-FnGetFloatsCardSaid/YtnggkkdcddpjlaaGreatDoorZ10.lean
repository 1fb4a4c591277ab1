/- internal/strconv.shortFloat at float64 and float32: what it answers, case by case (printed by wip/gen_short.py), under the table of powers of ten. -/
import Derived.Test.YtnggkkdcddpjlaaGreatDoorZ09
namespace Go.Proofs.YtnggkkdcddpjlaaGreatDoor
open Go.RowKit
set_option maxRecDepth 100000
set_option linter.unusedVariables false
/-- The scaler's cells. -/
structure Pre (w : World) (b hi lo : Nat) (s : Int) : Prop where
  lt : b < w.heap.size
  c0 : w.cell? ⟨b, 0, none⟩ = some (.int .u64 hi)
  c1 : w.cell? ⟨b, 1, none⟩ = some (.int .u64 lo)
  c2 : w.cell? ⟨b, 2, none⟩ = some (.int .i64 s)
theorem Pre.on {w w' : World} {b hi lo : Nat} {s : Int} (h : Pre w b hi lo s) (hb : Below w.heap.size w w') : Pre w' b hi lo s :=
  ⟨Nat.lt_of_lt_of_le h.lt hb.size, (hb.cell (p := ⟨b, 0, none⟩) h.lt).trans h.c0, (hb.cell (p := ⟨b, 1, none⟩) h.lt).trans h.c1, (hb.cell (p := ⟨b, 2, none⟩) h.lt).trans h.c2⟩
@[irreducible] def scl (e p : Int) (x : Int) : Int :=
  usc (mulH x.toNat (pHi (p + 348).toNat)) (mulL x.toNat (pHi (p + 348).toNat)) (mulH x.toNat (pLo (p + 348).toNat)) (-(e + p * 108853 / 32768 + 3) % 64)
theorem scl_in (e p x : Int) : 0 ≤ scl e p x ∧ scl e p x < 18446744073709551616 := by unfold scl; exact usc_in _ _ _ _
theorem rows_in : (Pinned.pow10Rows.all fun x => decide (x.1 < 18446744073709551616) && decide (x.2 < 18446744073709551616)) = true := by kernel_rfl
theorem getD_in (i : Nat) : W64 (pHi i) ∧ W64 (pLo i) := by
  unfold pHi pLo W64
  by_cases h : i < Pinned.pow10Rows.length
  · have hm : Pinned.pow10Rows[i] ∈ Pinned.pow10Rows := List.getElem_mem h
    have h1 := List.all_eq_true.1 rows_in _ hm
    simp only [Bool.and_eq_true, decide_eq_true_eq] at h1
    rw [List.getD_eq_getElem?_getD, List.getElem?_eq_getElem h]
    exact h1
  · rw [List.getD_eq_getElem?_getD, List.getElem?_eq_none (by omega)]
    exact ⟨by decide, by decide⟩
theorem scl_run (e p x : Int) (hx0 : 0 ≤ x) (hx1 : x < 18446744073709551616) (b : Nat) (w : World) (h : Pre w b (pHi (p + 348).toNat) (pLo (p + 348).toNat) (-(e + p * 108853 / 32768 + 3))) :
    Calls Tryz.prog 224 #[.int .u64 x, .pointer (some ⟨b, 0, none⟩)] w fun r w' => r = .returned (.int .u64 (scl e p x)) ∧ Below w.heap.size w w' := by
  unfold scl
  obtain ⟨n, rfl⟩ := Int.eq_ofNat_of_zero_le hx0
  have hn : W64 n := by unfold W64; omega
  have := uscale_run n _ _ b _ w hn (getD_in _).1 (getD_in _).2 h.c0 h.c1 h.c2
  exact this
/-- shortFloat, from the scaled bounds on; q: the power of ten, negated. -/
def sfTail (m e q mn mx odd : Int) : Int × Int :=
  let dmin := IntKind.u64.wrap (IntKind.u64.wrap (scl e (-q) mn + IntKind.u64.wrap odd) + 3) / 4
  let dmax := IntKind.u64.wrap (IntKind.u64.wrap (scl e (-q) mx + IntKind.u64.wrap (wrap64 (-odd)))) / 4
  let d := IntKind.u64.wrap (dmax.tdiv 10)
  if IntKind.u64.wrap (d * 10) < dmin then (if dmin < dmax then (rnd (scl e (-q) m), q) else (dmin, q)) else (d, -(-q - 1))
/-- The scaler's cells in a world that has grown from w0. -/
structure PreOn (w0 w : World) (hi lo : Nat) (s : Int) : Prop where
  pre : Pre w w0.heap.size hi lo s
  below : Below w0.heap.size w0 w
theorem short64_b (m e : Int) (hm0 : 0 ≤ m) (hm1 : m < 18446744073709551616) (he0 : -1085 ≤ e) (he1 : e ≤ 1000) (hm : (m == 9223372036854775808) = false) (w : World) (hp : PowAt w) (hw : 8 ≤ w.heap.size) :
    Calls Tryz.prog 209 #[.int .u64 m, .int .i64 e] w fun r w' => r = .returned (.tuple #[.int .u64 (sfTail m e ((e + 11) * 78913 / 262144) (IntKind.u64.wrap (m - 1024)) (IntKind.u64.wrap (m + 1024)) (bits BinOp.and IntKind.i64 (m / 2048) 1)).1, .int .i64 (sfTail m e ((e + 11) * 78913 / 262144) (IntKind.u64.wrap (m - 1024)) (IntKind.u64.wrap (m + 1024)) (bits BinOp.and IntKind.i64 (m / 2048) 1)).2]) ∧ Below w.heap.size w w' := by
  obtain ⟨q, hq⟩ : ∃ q, q = ((e + 11) * 78913 / 262144) := ⟨_, rfl⟩
  have hL := fun w => l10_run (e + 11) (by omega) (by omega) w
  rw [← hq] at hL ⊢
  have hq0 : -340 ≤ q := by omega
  have hq1 : q ≤ 340 := by omega
  clear hq
  obtain ⟨lp, hlp⟩ : ∃ lp, lp = (-q) * 108853 / 32768 := ⟨_, rfl⟩
  have hl0 : -2000 ≤ lp := by omega
  have hl1 : lp ≤ 2000 := by omega
  have hL2 := fun w => l2_run (-q) (by omega) (by omega) w
  rw [← hlp] at hL2
  have HL := Lib.hid hL
  have HL2 := Lib.hid hL2
  have HP := Lib.hid hp
  have HW := Lib.hid hw
  have HLP := Lib.hid hlp
  clear hL hL2 hp hw hlp
  obtain ⟨R1, hR1⟩ : ∃ r, r = (sfTail m e q (IntKind.u64.wrap (m - 1024)) (IntKind.u64.wrap (m + 1024)) (bits BinOp.and IntKind.i64 (m / 2048) 1)).1 := ⟨_, rfl⟩
  obtain ⟨R2, hR2⟩ : ∃ r, r = (sfTail m e q (IntKind.u64.wrap (m - 1024)) (IntKind.u64.wrap (m + 1024)) (bits BinOp.and IntKind.i64 (m / 2048) 1)).2 := ⟨_, rfl⟩
  rw [← hR1, ← hR2]
  have HR := Lib.hid (And.intro hR1 hR2)
  clear hR1 hR2
  have hmd : m / 2048 < 9223372036854775808 := by omega
  have hmd0 : 0 ≤ m / 2048 := by omega
  have hS := fun (x : Int) hx0 hx1 b w h => scl_run e (-q) x hx0 hx1 b w h
  rw [← HLP.out] at hS
  have HS := Lib.hid hS
  have hn0 : 0 ≤ (IntKind.u64.wrap (m - 1024)) := by rw [IntKind.wrap_u64]; omega
  have hn1 : (IntKind.u64.wrap (m - 1024)) < 18446744073709551616 := by rw [IntKind.wrap_u64]; omega
  have hx0 : 0 ≤ (IntKind.u64.wrap (m + 1024)) := by rw [IntKind.wrap_u64]; omega
  have hx1 : (IntKind.u64.wrap (m + 1024)) < 18446744073709551616 := by rw [IntKind.wrap_u64]; omega
  have HN := Lib.hid (And.intro (And.intro hm0 hm1) (And.intro (And.intro hn0 hn1) (And.intro hx0 hx1)))
  clear hS hn0 hn1 hx0 hx1
  go_enter Tryz.func209, Tryz.ntmps209
  go_wp2_with (first | (go_at_call 204; refine (HL.out _).mono ?_; rintro r w1 ⟨rfl, rfl⟩) | (go_at_call 223; refine (HL2.out _).mono ?_; rintro r w1 ⟨rfl, rfl⟩) | (go_at_call 222; refine (prescale_run w1.heap.size _ _ _ e (-q) lp _ (HP.out.keep (below_alloc w1 _) HW.out) (by omega) (by omega) (by omega) (by omega) hl0 hl1 HW.out (by simp; rfl) (by simp; rfl) (by simp; rfl) (by simp) (by simp) (by simp)).mono ?_; rintro r w2 ⟨rfl, hb2, p0, p1, p2⟩; have hB2 := Below.trans (below_alloc w1 _) hb2; have hPre := Pre.mk (w := w2) (b := w1.heap.size) (by have h := hb2.size; simp at h; omega) p0 p1 p2; have HPre := Lib.hid hPre; have HB2 := Lib.hid hB2; clear hPre hB2 p0 p1 p2 hb2; refine Hid.out ?_))
  have hS2 : ∀ (x : Int), 0 ≤ x → x < 18446744073709551616 → ∀ w, PreOn w1 w (pHi (-q + 348).toNat) (pLo (-q + 348).toNat) (-(e + lp + 3)) → Calls Tryz.prog 224 #[.int .u64 x, .pointer (some ⟨w1.heap.size, 0, none⟩)] w fun r w' => r = .returned (.int .u64 (scl e (-q) x)) ∧ PreOn w1 w' (pHi (-q + 348).toNat) (pLo (-q + 348).toNat) (-(e + lp + 3)) :=
    fun x hx0 hx1 w h => (HS.out x hx0 hx1 w1.heap.size w h.pre).mono fun r w' ⟨he, hb⟩ => ⟨he, h.pre.on hb, belowOn h.below hb⟩
  have HPO : Hid (PreOn w1 w2 (pHi (-q + 348).toNat) (pLo (-q + 348).toNat) (-(e + lp + 3))) := Lib.hid ⟨HPre.out, HB2.out⟩
  clear HS HPre HB2
  have HS := Lib.hid hS2
  clear hS2
  have hPO := HPO.out
  clear HPO
  have HRt : Hid ((R1, R2) = sfTail m e q (IntKind.u64.wrap (m - 1024)) (IntKind.u64.wrap (m + 1024)) (bits BinOp.and IntKind.i64 (m / 2048) 1)) := Lib.hid (by rw [HR.out.1, HR.out.2])
  unfold sfTail at HRt
  clear HR
  have hin := fun x => scl_in e (-q) x
  generalize scl e (-q) = U at HS HRt hin
  generalize pHi (-q + 348).toNat = ph at HS hPO
  generalize pLo (-q + 348).toNat = pl at HS hPO
  generalize (IntKind.u64.wrap (m - 1024)) = mn at HS HRt HN ⊢
  generalize (IntKind.u64.wrap (m + 1024)) = mx at HS HRt HN ⊢
  generalize (bits BinOp.and IntKind.i64 (m / 2048) 1) = od at HRt ⊢
  obtain ⟨hU1, hU2⟩ := hin mn
  obtain ⟨hU3, hU4⟩ := hin mx
  clear hin
  refine Lib.hid ?_
  go_wp2_with (first
    | (go_at_call 224; refine (HS.out _ (by first | exact HN.out.1.1 | exact HN.out.2.1.1 | exact HN.out.2.2.1) (by first | exact HN.out.1.2 | exact HN.out.2.1.2 | exact HN.out.2.2.2) _ (by assumption)).mono ?_; rintro r w3 ⟨rfl, hpo⟩)
    | (go_at_call 225; refine (nudge_run _ _ _).mono ?_; rintro r w3 ⟨rfl, rfl⟩)
    | (go_at_call 226; refine (ceil_run _ _).mono ?_; rintro r w3 ⟨rfl, rfl⟩)
    | (go_at_call 227; refine (floor_run _ _).mono ?_; rintro r w3 ⟨rfl, rfl⟩)
    | (go_at_call 228; refine (round_run _ _).mono ?_; rintro r w3 ⟨rfl, rfl⟩))
  all_goals
    go_ret2
    refine ⟨?_, PreOn.below (by assumption)⟩
    have h := HRt.out

    first
      | (rw [if_pos (by assumption), if_pos (by assumption)] at h
         obtain ⟨rfl, rfl⟩ := Prod.mk.inj h
         rfl)
      | (rw [if_pos (by assumption), if_neg (by omega)] at h
         obtain ⟨rfl, rfl⟩ := Prod.mk.inj h
         rfl)
      | (rw [if_neg (by omega)] at h
         obtain ⟨rfl, rfl⟩ := Prod.mk.inj h
         rfl)
theorem short64_b2 (m e : Int) (hm0 : 0 ≤ m) (hm1 : m < 18446744073709551616) (he0 : -1085 ≤ e) (he1 : e ≤ -1085) (hm : (m == 9223372036854775808) = true) (w : World) (hp : PowAt w) (hw : 8 ≤ w.heap.size) :
    Calls Tryz.prog 209 #[.int .u64 m, .int .i64 e] w fun r w' => r = .returned (.tuple #[.int .u64 (sfTail m e ((e + 11) * 78913 / 262144) (IntKind.u64.wrap (m - 1024)) (IntKind.u64.wrap (m + 1024)) (bits BinOp.and IntKind.i64 (m / 2048) 1)).1, .int .i64 (sfTail m e ((e + 11) * 78913 / 262144) (IntKind.u64.wrap (m - 1024)) (IntKind.u64.wrap (m + 1024)) (bits BinOp.and IntKind.i64 (m / 2048) 1)).2]) ∧ Below w.heap.size w w' := by
  obtain ⟨q, hq⟩ : ∃ q, q = ((e + 11) * 78913 / 262144) := ⟨_, rfl⟩
  have hL := fun w => l10_run (e + 11) (by omega) (by omega) w
  rw [← hq] at hL ⊢
  have hq0 : -340 ≤ q := by omega
  have hq1 : q ≤ 340 := by omega
  clear hq
  obtain ⟨lp, hlp⟩ : ∃ lp, lp = (-q) * 108853 / 32768 := ⟨_, rfl⟩
  have hl0 : -2000 ≤ lp := by omega
  have hl1 : lp ≤ 2000 := by omega
  have hL2 := fun w => l2_run (-q) (by omega) (by omega) w
  rw [← hlp] at hL2
  have HL := Lib.hid hL
  have HL2 := Lib.hid hL2
  have HP := Lib.hid hp
  have HW := Lib.hid hw
  have HLP := Lib.hid hlp
  clear hL hL2 hp hw hlp
  obtain ⟨R1, hR1⟩ : ∃ r, r = (sfTail m e q (IntKind.u64.wrap (m - 1024)) (IntKind.u64.wrap (m + 1024)) (bits BinOp.and IntKind.i64 (m / 2048) 1)).1 := ⟨_, rfl⟩
  obtain ⟨R2, hR2⟩ : ∃ r, r = (sfTail m e q (IntKind.u64.wrap (m - 1024)) (IntKind.u64.wrap (m + 1024)) (bits BinOp.and IntKind.i64 (m / 2048) 1)).2 := ⟨_, rfl⟩
  rw [← hR1, ← hR2]
  have HR := Lib.hid (And.intro hR1 hR2)
  clear hR1 hR2
  have hmd : m / 2048 < 9223372036854775808 := by omega
  have hmd0 : 0 ≤ m / 2048 := by omega
  have hS := fun (x : Int) hx0 hx1 b w h => scl_run e (-q) x hx0 hx1 b w h
  rw [← HLP.out] at hS
  have HS := Lib.hid hS
  have hn0 : 0 ≤ (IntKind.u64.wrap (m - 1024)) := by rw [IntKind.wrap_u64]; omega
  have hn1 : (IntKind.u64.wrap (m - 1024)) < 18446744073709551616 := by rw [IntKind.wrap_u64]; omega
  have hx0 : 0 ≤ (IntKind.u64.wrap (m + 1024)) := by rw [IntKind.wrap_u64]; omega
  have hx1 : (IntKind.u64.wrap (m + 1024)) < 18446744073709551616 := by rw [IntKind.wrap_u64]; omega
  have HN := Lib.hid (And.intro (And.intro hm0 hm1) (And.intro (And.intro hn0 hn1) (And.intro hx0 hx1)))
  clear hS hn0 hn1 hx0 hx1
  go_enter Tryz.func209, Tryz.ntmps209
  go_wp2_with (first | (go_at_call 204; refine (HL.out _).mono ?_; rintro r w1 ⟨rfl, rfl⟩) | (go_at_call 223; refine (HL2.out _).mono ?_; rintro r w1 ⟨rfl, rfl⟩) | (go_at_call 222; refine (prescale_run w1.heap.size _ _ _ e (-q) lp _ (HP.out.keep (below_alloc w1 _) HW.out) (by omega) (by omega) (by omega) (by omega) hl0 hl1 HW.out (by simp; rfl) (by simp; rfl) (by simp; rfl) (by simp) (by simp) (by simp)).mono ?_; rintro r w2 ⟨rfl, hb2, p0, p1, p2⟩; have hB2 := Below.trans (below_alloc w1 _) hb2; have hPre := Pre.mk (w := w2) (b := w1.heap.size) (by have h := hb2.size; simp at h; omega) p0 p1 p2; have HPre := Lib.hid hPre; have HB2 := Lib.hid hB2; clear hPre hB2 p0 p1 p2 hb2; refine Hid.out ?_))
  have hS2 : ∀ (x : Int), 0 ≤ x → x < 18446744073709551616 → ∀ w, PreOn w1 w (pHi (-q + 348).toNat) (pLo (-q + 348).toNat) (-(e + lp + 3)) → Calls Tryz.prog 224 #[.int .u64 x, .pointer (some ⟨w1.heap.size, 0, none⟩)] w fun r w' => r = .returned (.int .u64 (scl e (-q) x)) ∧ PreOn w1 w' (pHi (-q + 348).toNat) (pLo (-q + 348).toNat) (-(e + lp + 3)) :=
    fun x hx0 hx1 w h => (HS.out x hx0 hx1 w1.heap.size w h.pre).mono fun r w' ⟨he, hb⟩ => ⟨he, h.pre.on hb, belowOn h.below hb⟩
  have HPO : Hid (PreOn w1 w2 (pHi (-q + 348).toNat) (pLo (-q + 348).toNat) (-(e + lp + 3))) := Lib.hid ⟨HPre.out, HB2.out⟩
  clear HS HPre HB2
  have HS := Lib.hid hS2
  clear hS2
  have hPO := HPO.out
  clear HPO
  have HRt : Hid ((R1, R2) = sfTail m e q (IntKind.u64.wrap (m - 1024)) (IntKind.u64.wrap (m + 1024)) (bits BinOp.and IntKind.i64 (m / 2048) 1)) := Lib.hid (by rw [HR.out.1, HR.out.2])
  unfold sfTail at HRt
  clear HR
  have hin := fun x => scl_in e (-q) x
  generalize scl e (-q) = U at HS HRt hin
  generalize pHi (-q + 348).toNat = ph at HS hPO
  generalize pLo (-q + 348).toNat = pl at HS hPO
  generalize (IntKind.u64.wrap (m - 1024)) = mn at HS HRt HN ⊢
  generalize (IntKind.u64.wrap (m + 1024)) = mx at HS HRt HN ⊢
  generalize (bits BinOp.and IntKind.i64 (m / 2048) 1) = od at HRt ⊢
  obtain ⟨hU1, hU2⟩ := hin mn
  obtain ⟨hU3, hU4⟩ := hin mx
  clear hin
  refine Lib.hid ?_
  go_wp2_with (first
    | (go_at_call 224; refine (HS.out _ (by first | exact HN.out.1.1 | exact HN.out.2.1.1 | exact HN.out.2.2.1) (by first | exact HN.out.1.2 | exact HN.out.2.1.2 | exact HN.out.2.2.2) _ (by assumption)).mono ?_; rintro r w3 ⟨rfl, hpo⟩)
    | (go_at_call 225; refine (nudge_run _ _ _).mono ?_; rintro r w3 ⟨rfl, rfl⟩)
    | (go_at_call 226; refine (ceil_run _ _).mono ?_; rintro r w3 ⟨rfl, rfl⟩)
    | (go_at_call 227; refine (floor_run _ _).mono ?_; rintro r w3 ⟨rfl, rfl⟩)
    | (go_at_call 228; refine (round_run _ _).mono ?_; rintro r w3 ⟨rfl, rfl⟩))
  all_goals
    go_ret2
    refine ⟨?_, PreOn.below (by assumption)⟩
    have h := HRt.out

    first
      | (rw [if_pos (by assumption), if_pos (by assumption)] at h
         obtain ⟨rfl, rfl⟩ := Prod.mk.inj h
         rfl)
      | (rw [if_pos (by assumption), if_neg (by omega)] at h
         obtain ⟨rfl, rfl⟩ := Prod.mk.inj h
         rfl)
      | (rw [if_neg (by omega)] at h
         obtain ⟨rfl, rfl⟩ := Prod.mk.inj h
         rfl)
theorem short64_a (m e : Int) (hm0 : 0 ≤ m) (hm1 : m < 18446744073709551616) (he0 : -1085 < e) (he1 : e ≤ 1000) (hm : (m == 9223372036854775808) = true) (w : World) (hp : PowAt w) (hw : 8 ≤ w.heap.size) :
    Calls Tryz.prog 209 #[.int .u64 m, .int .i64 e] w fun r w' => r = .returned (.tuple #[.int .u64 (sfTail m e (((e + 11) * 631305 - 261663) / 2097152) (IntKind.u64.wrap (m - 512)) (IntKind.u64.wrap (m + 1024)) (bits BinOp.and IntKind.i64 (m / 2048) 1)).1, .int .i64 (sfTail m e (((e + 11) * 631305 - 261663) / 2097152) (IntKind.u64.wrap (m - 512)) (IntKind.u64.wrap (m + 1024)) (bits BinOp.and IntKind.i64 (m / 2048) 1)).2]) ∧ Below w.heap.size w w' := by
  obtain ⟨q, hq⟩ : ∃ q, q = (((e + 11) * 631305 - 261663) / 2097152) := ⟨_, rfl⟩
  have hL := fun w => skewed_run (e + 11) (by omega) (by omega) w
  rw [← hq] at hL ⊢
  have hq0 : -340 ≤ q := by omega
  have hq1 : q ≤ 340 := by omega
  clear hq
  obtain ⟨lp, hlp⟩ : ∃ lp, lp = (-q) * 108853 / 32768 := ⟨_, rfl⟩
  have hl0 : -2000 ≤ lp := by omega
  have hl1 : lp ≤ 2000 := by omega
  have hL2 := fun w => l2_run (-q) (by omega) (by omega) w
  rw [← hlp] at hL2
  have HL := Lib.hid hL
  have HL2 := Lib.hid hL2
  have HP := Lib.hid hp
  have HW := Lib.hid hw
  have HLP := Lib.hid hlp
  clear hL hL2 hp hw hlp
  obtain ⟨R1, hR1⟩ : ∃ r, r = (sfTail m e q (IntKind.u64.wrap (m - 512)) (IntKind.u64.wrap (m + 1024)) (bits BinOp.and IntKind.i64 (m / 2048) 1)).1 := ⟨_, rfl⟩
  obtain ⟨R2, hR2⟩ : ∃ r, r = (sfTail m e q (IntKind.u64.wrap (m - 512)) (IntKind.u64.wrap (m + 1024)) (bits BinOp.and IntKind.i64 (m / 2048) 1)).2 := ⟨_, rfl⟩
  rw [← hR1, ← hR2]
  have HR := Lib.hid (And.intro hR1 hR2)
  clear hR1 hR2
  have hmd : m / 2048 < 9223372036854775808 := by omega
  have hmd0 : 0 ≤ m / 2048 := by omega
  have hS := fun (x : Int) hx0 hx1 b w h => scl_run e (-q) x hx0 hx1 b w h
  rw [← HLP.out] at hS
  have HS := Lib.hid hS
  have hn0 : 0 ≤ (IntKind.u64.wrap (m - 512)) := by rw [IntKind.wrap_u64]; omega
  have hn1 : (IntKind.u64.wrap (m - 512)) < 18446744073709551616 := by rw [IntKind.wrap_u64]; omega
  have hx0 : 0 ≤ (IntKind.u64.wrap (m + 1024)) := by rw [IntKind.wrap_u64]; omega
  have hx1 : (IntKind.u64.wrap (m + 1024)) < 18446744073709551616 := by rw [IntKind.wrap_u64]; omega
  have HN := Lib.hid (And.intro (And.intro hm0 hm1) (And.intro (And.intro hn0 hn1) (And.intro hx0 hx1)))
  clear hS hn0 hn1 hx0 hx1
  go_enter Tryz.func209, Tryz.ntmps209
  go_wp2_with (first | (go_at_call 221; refine (HL.out _).mono ?_; rintro r w1 ⟨rfl, rfl⟩) | (go_at_call 223; refine (HL2.out _).mono ?_; rintro r w1 ⟨rfl, rfl⟩) | (go_at_call 222; refine (prescale_run w1.heap.size _ _ _ e (-q) lp _ (HP.out.keep (below_alloc w1 _) HW.out) (by omega) (by omega) (by omega) (by omega) hl0 hl1 HW.out (by simp; rfl) (by simp; rfl) (by simp; rfl) (by simp) (by simp) (by simp)).mono ?_; rintro r w2 ⟨rfl, hb2, p0, p1, p2⟩; have hB2 := Below.trans (below_alloc w1 _) hb2; have hPre := Pre.mk (w := w2) (b := w1.heap.size) (by have h := hb2.size; simp at h; omega) p0 p1 p2; have HPre := Lib.hid hPre; have HB2 := Lib.hid hB2; clear hPre hB2 p0 p1 p2 hb2; refine Hid.out ?_))
  have hS2 : ∀ (x : Int), 0 ≤ x → x < 18446744073709551616 → ∀ w, PreOn w1 w (pHi (-q + 348).toNat) (pLo (-q + 348).toNat) (-(e + lp + 3)) → Calls Tryz.prog 224 #[.int .u64 x, .pointer (some ⟨w1.heap.size, 0, none⟩)] w fun r w' => r = .returned (.int .u64 (scl e (-q) x)) ∧ PreOn w1 w' (pHi (-q + 348).toNat) (pLo (-q + 348).toNat) (-(e + lp + 3)) :=
    fun x hx0 hx1 w h => (HS.out x hx0 hx1 w1.heap.size w h.pre).mono fun r w' ⟨he, hb⟩ => ⟨he, h.pre.on hb, belowOn h.below hb⟩
  have HPO : Hid (PreOn w1 w2 (pHi (-q + 348).toNat) (pLo (-q + 348).toNat) (-(e + lp + 3))) := Lib.hid ⟨HPre.out, HB2.out⟩
  clear HS HPre HB2
  have HS := Lib.hid hS2
  clear hS2
  have hPO := HPO.out
  clear HPO
  have HRt : Hid ((R1, R2) = sfTail m e q (IntKind.u64.wrap (m - 512)) (IntKind.u64.wrap (m + 1024)) (bits BinOp.and IntKind.i64 (m / 2048) 1)) := Lib.hid (by rw [HR.out.1, HR.out.2])
  unfold sfTail at HRt
  clear HR
  have hin := fun x => scl_in e (-q) x
  generalize scl e (-q) = U at HS HRt hin
  generalize pHi (-q + 348).toNat = ph at HS hPO
  generalize pLo (-q + 348).toNat = pl at HS hPO
  generalize (IntKind.u64.wrap (m - 512)) = mn at HS HRt HN ⊢
  generalize (IntKind.u64.wrap (m + 1024)) = mx at HS HRt HN ⊢
  generalize (bits BinOp.and IntKind.i64 (m / 2048) 1) = od at HRt ⊢
  obtain ⟨hU1, hU2⟩ := hin mn
  obtain ⟨hU3, hU4⟩ := hin mx
  clear hin
  refine Lib.hid ?_
  go_wp2_with (first
    | (go_at_call 224; refine (HS.out _ (by first | exact HN.out.1.1 | exact HN.out.2.1.1 | exact HN.out.2.2.1) (by first | exact HN.out.1.2 | exact HN.out.2.1.2 | exact HN.out.2.2.2) _ (by assumption)).mono ?_; rintro r w3 ⟨rfl, hpo⟩)
    | (go_at_call 225; refine (nudge_run _ _ _).mono ?_; rintro r w3 ⟨rfl, rfl⟩)
    | (go_at_call 226; refine (ceil_run _ _).mono ?_; rintro r w3 ⟨rfl, rfl⟩)
    | (go_at_call 227; refine (floor_run _ _).mono ?_; rintro r w3 ⟨rfl, rfl⟩)
    | (go_at_call 228; refine (round_run _ _).mono ?_; rintro r w3 ⟨rfl, rfl⟩))
  all_goals
    go_ret2
    refine ⟨?_, PreOn.below (by assumption)⟩
    have h := HRt.out

    first
      | (rw [if_pos (by assumption), if_pos (by assumption)] at h
         obtain ⟨rfl, rfl⟩ := Prod.mk.inj h
         rfl)
      | (rw [if_pos (by assumption), if_neg (by omega)] at h
         obtain ⟨rfl, rfl⟩ := Prod.mk.inj h
         rfl)
      | (rw [if_neg (by omega)] at h
         obtain ⟨rfl, rfl⟩ := Prod.mk.inj h
         rfl)
theorem short64_c (m e : Int) (hm0 : 0 ≤ m) (hm1 : m < 18446744073709551616) (he0 : -1138 ≤ e) (he1 : e < -1085) (hm : (m == 9223372036854775808) = false) (w : World) (hp : PowAt w) (hw : 8 ≤ w.heap.size) :
    Calls Tryz.prog 209 #[.int .u64 m, .int .i64 e] w fun r w' => r = .returned (.tuple #[.int .u64 (sfTail m e ((e + (11 + (-1085 - e))) * 78913 / 262144) (IntKind.u64.wrap (m - IntKind.u64.wrap (2 ^ ((11 + (-1085 - e)).toNat - 1)))) (IntKind.u64.wrap (m + IntKind.u64.wrap (2 ^ ((11 + (-1085 - e)).toNat - 1)))) (bits BinOp.and IntKind.i64 (wrap64 (m / 2 ^ (11 + (-1085 - e)).toNat)) 1)).1, .int .i64 (sfTail m e ((e + (11 + (-1085 - e))) * 78913 / 262144) (IntKind.u64.wrap (m - IntKind.u64.wrap (2 ^ ((11 + (-1085 - e)).toNat - 1)))) (IntKind.u64.wrap (m + IntKind.u64.wrap (2 ^ ((11 + (-1085 - e)).toNat - 1)))) (bits BinOp.and IntKind.i64 (wrap64 (m / 2 ^ (11 + (-1085 - e)).toNat)) 1)).2]) ∧ Below w.heap.size w w' := by
  obtain ⟨q, hq⟩ : ∃ q, q = ((e + (11 + (-1085 - e))) * 78913 / 262144) := ⟨_, rfl⟩
  have hL := fun w => l10_run (e + (11 + (-1085 - e))) (by omega) (by omega) w
  rw [← hq] at hL ⊢
  have hq0 : -340 ≤ q := by omega
  have hq1 : q ≤ 340 := by omega
  clear hq
  obtain ⟨lp, hlp⟩ : ∃ lp, lp = (-q) * 108853 / 32768 := ⟨_, rfl⟩
  have hl0 : -2000 ≤ lp := by omega
  have hl1 : lp ≤ 2000 := by omega
  have hL2 := fun w => l2_run (-q) (by omega) (by omega) w
  rw [← hlp] at hL2
  have HL := Lib.hid hL
  have HL2 := Lib.hid hL2
  have HP := Lib.hid hp
  have HW := Lib.hid hw
  have HLP := Lib.hid hlp
  clear hL hL2 hp hw hlp
  obtain ⟨R1, hR1⟩ : ∃ r, r = (sfTail m e q (IntKind.u64.wrap (m - IntKind.u64.wrap (2 ^ ((11 + (-1085 - e)).toNat - 1)))) (IntKind.u64.wrap (m + IntKind.u64.wrap (2 ^ ((11 + (-1085 - e)).toNat - 1)))) (bits BinOp.and IntKind.i64 (wrap64 (m / 2 ^ (11 + (-1085 - e)).toNat)) 1)).1 := ⟨_, rfl⟩
  obtain ⟨R2, hR2⟩ : ∃ r, r = (sfTail m e q (IntKind.u64.wrap (m - IntKind.u64.wrap (2 ^ ((11 + (-1085 - e)).toNat - 1)))) (IntKind.u64.wrap (m + IntKind.u64.wrap (2 ^ ((11 + (-1085 - e)).toNat - 1)))) (bits BinOp.and IntKind.i64 (wrap64 (m / 2 ^ (11 + (-1085 - e)).toNat)) 1)).2 := ⟨_, rfl⟩
  rw [← hR1, ← hR2]
  have HR := Lib.hid (And.intro hR1 hR2)
  clear hR1 hR2
  have hz0 : 0 ≤ (11 + (-1085 - e)) := by omega
  have hz1 : (11 + (-1085 - e)) ≤ 64 := by omega
  have hS := fun (x : Int) hx0 hx1 b w h => scl_run e (-q) x hx0 hx1 b w h
  rw [← HLP.out] at hS
  have HS := Lib.hid hS
  have hn0 : 0 ≤ (IntKind.u64.wrap (m - IntKind.u64.wrap (2 ^ ((11 + (-1085 - e)).toNat - 1)))) := by rw [IntKind.wrap_u64]; omega
  have hn1 : (IntKind.u64.wrap (m - IntKind.u64.wrap (2 ^ ((11 + (-1085 - e)).toNat - 1)))) < 18446744073709551616 := by rw [IntKind.wrap_u64]; omega
  have hx0 : 0 ≤ (IntKind.u64.wrap (m + IntKind.u64.wrap (2 ^ ((11 + (-1085 - e)).toNat - 1)))) := by rw [IntKind.wrap_u64]; omega
  have hx1 : (IntKind.u64.wrap (m + IntKind.u64.wrap (2 ^ ((11 + (-1085 - e)).toNat - 1)))) < 18446744073709551616 := by rw [IntKind.wrap_u64]; omega
  have HN := Lib.hid (And.intro (And.intro hm0 hm1) (And.intro (And.intro hn0 hn1) (And.intro hx0 hx1)))
  clear hS hn0 hn1 hx0 hx1
  go_enter Tryz.func209, Tryz.ntmps209
  go_wp2_with (first | (go_at_call 204; refine (HL.out _).mono ?_; rintro r w1 ⟨rfl, rfl⟩) | (go_at_call 223; refine (HL2.out _).mono ?_; rintro r w1 ⟨rfl, rfl⟩) | (go_at_call 222; refine (prescale_run w1.heap.size _ _ _ e (-q) lp _ (HP.out.keep (below_alloc w1 _) HW.out) (by omega) (by omega) (by omega) (by omega) hl0 hl1 HW.out (by simp; rfl) (by simp; rfl) (by simp; rfl) (by simp) (by simp) (by simp)).mono ?_; rintro r w2 ⟨rfl, hb2, p0, p1, p2⟩; have hB2 := Below.trans (below_alloc w1 _) hb2; have hPre := Pre.mk (w := w2) (b := w1.heap.size) (by have h := hb2.size; simp at h; omega) p0 p1 p2; have HPre := Lib.hid hPre; have HB2 := Lib.hid hB2; clear hPre hB2 p0 p1 p2 hb2; refine Hid.out ?_))
  have hS2 : ∀ (x : Int), 0 ≤ x → x < 18446744073709551616 → ∀ w, PreOn w1 w (pHi (-q + 348).toNat) (pLo (-q + 348).toNat) (-(e + lp + 3)) → Calls Tryz.prog 224 #[.int .u64 x, .pointer (some ⟨w1.heap.size, 0, none⟩)] w fun r w' => r = .returned (.int .u64 (scl e (-q) x)) ∧ PreOn w1 w' (pHi (-q + 348).toNat) (pLo (-q + 348).toNat) (-(e + lp + 3)) :=
    fun x hx0 hx1 w h => (HS.out x hx0 hx1 w1.heap.size w h.pre).mono fun r w' ⟨he, hb⟩ => ⟨he, h.pre.on hb, belowOn h.below hb⟩
  have HPO : Hid (PreOn w1 w2 (pHi (-q + 348).toNat) (pLo (-q + 348).toNat) (-(e + lp + 3))) := Lib.hid ⟨HPre.out, HB2.out⟩
  clear HS HPre HB2
  have HS := Lib.hid hS2
  clear hS2
  have hPO := HPO.out
  clear HPO
  have HRt : Hid ((R1, R2) = sfTail m e q (IntKind.u64.wrap (m - IntKind.u64.wrap (2 ^ ((11 + (-1085 - e)).toNat - 1)))) (IntKind.u64.wrap (m + IntKind.u64.wrap (2 ^ ((11 + (-1085 - e)).toNat - 1)))) (bits BinOp.and IntKind.i64 (wrap64 (m / 2 ^ (11 + (-1085 - e)).toNat)) 1)) := Lib.hid (by rw [HR.out.1, HR.out.2])
  unfold sfTail at HRt
  clear HR
  have hin := fun x => scl_in e (-q) x
  generalize scl e (-q) = U at HS HRt hin
  generalize pHi (-q + 348).toNat = ph at HS hPO
  generalize pLo (-q + 348).toNat = pl at HS hPO
  generalize (IntKind.u64.wrap (m - IntKind.u64.wrap (2 ^ ((11 + (-1085 - e)).toNat - 1)))) = mn at HS HRt HN ⊢
  generalize (IntKind.u64.wrap (m + IntKind.u64.wrap (2 ^ ((11 + (-1085 - e)).toNat - 1)))) = mx at HS HRt HN ⊢
  generalize (bits BinOp.and IntKind.i64 (wrap64 (m / 2 ^ (11 + (-1085 - e)).toNat)) 1) = od at HRt ⊢
  obtain ⟨hU1, hU2⟩ := hin mn
  obtain ⟨hU3, hU4⟩ := hin mx
  clear hin
  refine Lib.hid ?_
  go_wp2_with (first
    | (go_at_call 224; refine (HS.out _ (by first | exact HN.out.1.1 | exact HN.out.2.1.1 | exact HN.out.2.2.1) (by first | exact HN.out.1.2 | exact HN.out.2.1.2 | exact HN.out.2.2.2) _ (by assumption)).mono ?_; rintro r w3 ⟨rfl, hpo⟩)
    | (go_at_call 225; refine (nudge_run _ _ _).mono ?_; rintro r w3 ⟨rfl, rfl⟩)
    | (go_at_call 226; refine (ceil_run _ _).mono ?_; rintro r w3 ⟨rfl, rfl⟩)
    | (go_at_call 227; refine (floor_run _ _).mono ?_; rintro r w3 ⟨rfl, rfl⟩)
    | (go_at_call 228; refine (round_run _ _).mono ?_; rintro r w3 ⟨rfl, rfl⟩))
  all_goals
    go_ret2
    refine ⟨?_, PreOn.below (by assumption)⟩
    have h := HRt.out

    first
      | (rw [if_pos (by assumption), if_pos (by assumption)] at h
         obtain ⟨rfl, rfl⟩ := Prod.mk.inj h
         rfl)
      | (rw [if_pos (by assumption), if_neg (by omega)] at h
         obtain ⟨rfl, rfl⟩ := Prod.mk.inj h
         rfl)
      | (rw [if_neg (by omega)] at h
         obtain ⟨rfl, rfl⟩ := Prod.mk.inj h
         rfl)
theorem short64_c2 (m e : Int) (hm0 : 0 ≤ m) (hm1 : m < 18446744073709551616) (he0 : -1138 ≤ e) (he1 : e < -1085) (hm : (m == 9223372036854775808) = true) (w : World) (hp : PowAt w) (hw : 8 ≤ w.heap.size) :
    Calls Tryz.prog 209 #[.int .u64 m, .int .i64 e] w fun r w' => r = .returned (.tuple #[.int .u64 (sfTail m e ((e + (11 + (-1085 - e))) * 78913 / 262144) (IntKind.u64.wrap (m - IntKind.u64.wrap (2 ^ ((11 + (-1085 - e)).toNat - 1)))) (IntKind.u64.wrap (m + IntKind.u64.wrap (2 ^ ((11 + (-1085 - e)).toNat - 1)))) (bits BinOp.and IntKind.i64 (wrap64 (m / 2 ^ (11 + (-1085 - e)).toNat)) 1)).1, .int .i64 (sfTail m e ((e + (11 + (-1085 - e))) * 78913 / 262144) (IntKind.u64.wrap (m - IntKind.u64.wrap (2 ^ ((11 + (-1085 - e)).toNat - 1)))) (IntKind.u64.wrap (m + IntKind.u64.wrap (2 ^ ((11 + (-1085 - e)).toNat - 1)))) (bits BinOp.and IntKind.i64 (wrap64 (m / 2 ^ (11 + (-1085 - e)).toNat)) 1)).2]) ∧ Below w.heap.size w w' := by
  obtain ⟨q, hq⟩ : ∃ q, q = ((e + (11 + (-1085 - e))) * 78913 / 262144) := ⟨_, rfl⟩
  have hL := fun w => l10_run (e + (11 + (-1085 - e))) (by omega) (by omega) w
  rw [← hq] at hL ⊢
  have hq0 : -340 ≤ q := by omega
  have hq1 : q ≤ 340 := by omega
  clear hq
  obtain ⟨lp, hlp⟩ : ∃ lp, lp = (-q) * 108853 / 32768 := ⟨_, rfl⟩
  have hl0 : -2000 ≤ lp := by omega
  have hl1 : lp ≤ 2000 := by omega
  have hL2 := fun w => l2_run (-q) (by omega) (by omega) w
  rw [← hlp] at hL2
  have HL := Lib.hid hL
  have HL2 := Lib.hid hL2
  have HP := Lib.hid hp
  have HW := Lib.hid hw
  have HLP := Lib.hid hlp
  clear hL hL2 hp hw hlp
  obtain ⟨R1, hR1⟩ : ∃ r, r = (sfTail m e q (IntKind.u64.wrap (m - IntKind.u64.wrap (2 ^ ((11 + (-1085 - e)).toNat - 1)))) (IntKind.u64.wrap (m + IntKind.u64.wrap (2 ^ ((11 + (-1085 - e)).toNat - 1)))) (bits BinOp.and IntKind.i64 (wrap64 (m / 2 ^ (11 + (-1085 - e)).toNat)) 1)).1 := ⟨_, rfl⟩
  obtain ⟨R2, hR2⟩ : ∃ r, r = (sfTail m e q (IntKind.u64.wrap (m - IntKind.u64.wrap (2 ^ ((11 + (-1085 - e)).toNat - 1)))) (IntKind.u64.wrap (m + IntKind.u64.wrap (2 ^ ((11 + (-1085 - e)).toNat - 1)))) (bits BinOp.and IntKind.i64 (wrap64 (m / 2 ^ (11 + (-1085 - e)).toNat)) 1)).2 := ⟨_, rfl⟩
  rw [← hR1, ← hR2]
  have HR := Lib.hid (And.intro hR1 hR2)
  clear hR1 hR2
  have hz0 : 0 ≤ (11 + (-1085 - e)) := by omega
  have hz1 : (11 + (-1085 - e)) ≤ 64 := by omega
  have hS := fun (x : Int) hx0 hx1 b w h => scl_run e (-q) x hx0 hx1 b w h
  rw [← HLP.out] at hS
  have HS := Lib.hid hS
  have hn0 : 0 ≤ (IntKind.u64.wrap (m - IntKind.u64.wrap (2 ^ ((11 + (-1085 - e)).toNat - 1)))) := by rw [IntKind.wrap_u64]; omega
  have hn1 : (IntKind.u64.wrap (m - IntKind.u64.wrap (2 ^ ((11 + (-1085 - e)).toNat - 1)))) < 18446744073709551616 := by rw [IntKind.wrap_u64]; omega
  have hx0 : 0 ≤ (IntKind.u64.wrap (m + IntKind.u64.wrap (2 ^ ((11 + (-1085 - e)).toNat - 1)))) := by rw [IntKind.wrap_u64]; omega
  have hx1 : (IntKind.u64.wrap (m + IntKind.u64.wrap (2 ^ ((11 + (-1085 - e)).toNat - 1)))) < 18446744073709551616 := by rw [IntKind.wrap_u64]; omega
  have HN := Lib.hid (And.intro (And.intro hm0 hm1) (And.intro (And.intro hn0 hn1) (And.intro hx0 hx1)))
  clear hS hn0 hn1 hx0 hx1
  go_enter Tryz.func209, Tryz.ntmps209
  go_wp2_with (first | (go_at_call 204; refine (HL.out _).mono ?_; rintro r w1 ⟨rfl, rfl⟩) | (go_at_call 223; refine (HL2.out _).mono ?_; rintro r w1 ⟨rfl, rfl⟩) | (go_at_call 222; refine (prescale_run w1.heap.size _ _ _ e (-q) lp _ (HP.out.keep (below_alloc w1 _) HW.out) (by omega) (by omega) (by omega) (by omega) hl0 hl1 HW.out (by simp; rfl) (by simp; rfl) (by simp; rfl) (by simp) (by simp) (by simp)).mono ?_; rintro r w2 ⟨rfl, hb2, p0, p1, p2⟩; have hB2 := Below.trans (below_alloc w1 _) hb2; have hPre := Pre.mk (w := w2) (b := w1.heap.size) (by have h := hb2.size; simp at h; omega) p0 p1 p2; have HPre := Lib.hid hPre; have HB2 := Lib.hid hB2; clear hPre hB2 p0 p1 p2 hb2; refine Hid.out ?_))
  have hS2 : ∀ (x : Int), 0 ≤ x → x < 18446744073709551616 → ∀ w, PreOn w1 w (pHi (-q + 348).toNat) (pLo (-q + 348).toNat) (-(e + lp + 3)) → Calls Tryz.prog 224 #[.int .u64 x, .pointer (some ⟨w1.heap.size, 0, none⟩)] w fun r w' => r = .returned (.int .u64 (scl e (-q) x)) ∧ PreOn w1 w' (pHi (-q + 348).toNat) (pLo (-q + 348).toNat) (-(e + lp + 3)) :=
    fun x hx0 hx1 w h => (HS.out x hx0 hx1 w1.heap.size w h.pre).mono fun r w' ⟨he, hb⟩ => ⟨he, h.pre.on hb, belowOn h.below hb⟩
  have HPO : Hid (PreOn w1 w2 (pHi (-q + 348).toNat) (pLo (-q + 348).toNat) (-(e + lp + 3))) := Lib.hid ⟨HPre.out, HB2.out⟩
  clear HS HPre HB2
  have HS := Lib.hid hS2
  clear hS2
  have hPO := HPO.out
  clear HPO
  have HRt : Hid ((R1, R2) = sfTail m e q (IntKind.u64.wrap (m - IntKind.u64.wrap (2 ^ ((11 + (-1085 - e)).toNat - 1)))) (IntKind.u64.wrap (m + IntKind.u64.wrap (2 ^ ((11 + (-1085 - e)).toNat - 1)))) (bits BinOp.and IntKind.i64 (wrap64 (m / 2 ^ (11 + (-1085 - e)).toNat)) 1)) := Lib.hid (by rw [HR.out.1, HR.out.2])
  unfold sfTail at HRt
  clear HR
  have hin := fun x => scl_in e (-q) x
  generalize scl e (-q) = U at HS HRt hin
  generalize pHi (-q + 348).toNat = ph at HS hPO
  generalize pLo (-q + 348).toNat = pl at HS hPO
  generalize (IntKind.u64.wrap (m - IntKind.u64.wrap (2 ^ ((11 + (-1085 - e)).toNat - 1)))) = mn at HS HRt HN ⊢
  generalize (IntKind.u64.wrap (m + IntKind.u64.wrap (2 ^ ((11 + (-1085 - e)).toNat - 1)))) = mx at HS HRt HN ⊢
  generalize (bits BinOp.and IntKind.i64 (wrap64 (m / 2 ^ (11 + (-1085 - e)).toNat)) 1) = od at HRt ⊢
  obtain ⟨hU1, hU2⟩ := hin mn
  obtain ⟨hU3, hU4⟩ := hin mx
  clear hin
  refine Lib.hid ?_
  go_wp2_with (first
    | (go_at_call 224; refine (HS.out _ (by first | exact HN.out.1.1 | exact HN.out.2.1.1 | exact HN.out.2.2.1) (by first | exact HN.out.1.2 | exact HN.out.2.1.2 | exact HN.out.2.2.2) _ (by assumption)).mono ?_; rintro r w3 ⟨rfl, hpo⟩)
    | (go_at_call 225; refine (nudge_run _ _ _).mono ?_; rintro r w3 ⟨rfl, rfl⟩)
    | (go_at_call 226; refine (ceil_run _ _).mono ?_; rintro r w3 ⟨rfl, rfl⟩)
    | (go_at_call 227; refine (floor_run _ _).mono ?_; rintro r w3 ⟨rfl, rfl⟩)
    | (go_at_call 228; refine (round_run _ _).mono ?_; rintro r w3 ⟨rfl, rfl⟩))
  all_goals
    go_ret2
    refine ⟨?_, PreOn.below (by assumption)⟩
    have h := HRt.out

    first
      | (rw [if_pos (by assumption), if_pos (by assumption)] at h
         obtain ⟨rfl, rfl⟩ := Prod.mk.inj h
         rfl)
      | (rw [if_pos (by assumption), if_neg (by omega)] at h
         obtain ⟨rfl, rfl⟩ := Prod.mk.inj h
         rfl)
      | (rw [if_neg (by omega)] at h
         obtain ⟨rfl, rfl⟩ := Prod.mk.inj h
         rfl)
theorem short32_b (m e : Int) (hm0 : 0 ≤ m) (hm1 : m < 18446744073709551616) (he0 : -189 ≤ e) (he1 : e ≤ 1000) (hm : (m == 9223372036854775808) = false) (w : World) (hp : PowAt w) (hw : 8 ≤ w.heap.size) :
    Calls Tryz.prog 202 #[.int .u64 m, .int .i64 e] w fun r w' => r = .returned (.tuple #[.int .u64 (sfTail m e ((e + 40) * 78913 / 262144) (IntKind.u64.wrap (m - 549755813888)) (IntKind.u64.wrap (m + 549755813888)) (bits BinOp.and IntKind.i64 (m / 1099511627776) 1)).1, .int .i64 (sfTail m e ((e + 40) * 78913 / 262144) (IntKind.u64.wrap (m - 549755813888)) (IntKind.u64.wrap (m + 549755813888)) (bits BinOp.and IntKind.i64 (m / 1099511627776) 1)).2]) ∧ Below w.heap.size w w' := by
  obtain ⟨q, hq⟩ : ∃ q, q = ((e + 40) * 78913 / 262144) := ⟨_, rfl⟩
  have hL := fun w => l10_run (e + 40) (by omega) (by omega) w
  rw [← hq] at hL ⊢
  have hq0 : -340 ≤ q := by omega
  have hq1 : q ≤ 340 := by omega
  clear hq
  obtain ⟨lp, hlp⟩ : ∃ lp, lp = (-q) * 108853 / 32768 := ⟨_, rfl⟩
  have hl0 : -2000 ≤ lp := by omega
  have hl1 : lp ≤ 2000 := by omega
  have hL2 := fun w => l2_run (-q) (by omega) (by omega) w
  rw [← hlp] at hL2
  have HL := Lib.hid hL
  have HL2 := Lib.hid hL2
  have HP := Lib.hid hp
  have HW := Lib.hid hw
  have HLP := Lib.hid hlp
  clear hL hL2 hp hw hlp
  obtain ⟨R1, hR1⟩ : ∃ r, r = (sfTail m e q (IntKind.u64.wrap (m - 549755813888)) (IntKind.u64.wrap (m + 549755813888)) (bits BinOp.and IntKind.i64 (m / 1099511627776) 1)).1 := ⟨_, rfl⟩
  obtain ⟨R2, hR2⟩ : ∃ r, r = (sfTail m e q (IntKind.u64.wrap (m - 549755813888)) (IntKind.u64.wrap (m + 549755813888)) (bits BinOp.and IntKind.i64 (m / 1099511627776) 1)).2 := ⟨_, rfl⟩
  rw [← hR1, ← hR2]
  have HR := Lib.hid (And.intro hR1 hR2)
  clear hR1 hR2
  have hmd : m / 1099511627776 < 9223372036854775808 := by omega
  have hmd0 : 0 ≤ m / 1099511627776 := by omega
  have hS := fun (x : Int) hx0 hx1 b w h => scl_run e (-q) x hx0 hx1 b w h
  rw [← HLP.out] at hS
  have HS := Lib.hid hS
  have hn0 : 0 ≤ (IntKind.u64.wrap (m - 549755813888)) := by rw [IntKind.wrap_u64]; omega
  have hn1 : (IntKind.u64.wrap (m - 549755813888)) < 18446744073709551616 := by rw [IntKind.wrap_u64]; omega
  have hx0 : 0 ≤ (IntKind.u64.wrap (m + 549755813888)) := by rw [IntKind.wrap_u64]; omega
  have hx1 : (IntKind.u64.wrap (m + 549755813888)) < 18446744073709551616 := by rw [IntKind.wrap_u64]; omega
  have HN := Lib.hid (And.intro (And.intro hm0 hm1) (And.intro (And.intro hn0 hn1) (And.intro hx0 hx1)))
  clear hS hn0 hn1 hx0 hx1
  go_enter Tryz.func202, Tryz.ntmps202
  go_wp2_with (first | (go_at_call 204; refine (HL.out _).mono ?_; rintro r w1 ⟨rfl, rfl⟩) | (go_at_call 223; refine (HL2.out _).mono ?_; rintro r w1 ⟨rfl, rfl⟩) | (go_at_call 222; refine (prescale_run w1.heap.size _ _ _ e (-q) lp _ (HP.out.keep (below_alloc w1 _) HW.out) (by omega) (by omega) (by omega) (by omega) hl0 hl1 HW.out (by simp; rfl) (by simp; rfl) (by simp; rfl) (by simp) (by simp) (by simp)).mono ?_; rintro r w2 ⟨rfl, hb2, p0, p1, p2⟩; have hB2 := Below.trans (below_alloc w1 _) hb2; have hPre := Pre.mk (w := w2) (b := w1.heap.size) (by have h := hb2.size; simp at h; omega) p0 p1 p2; have HPre := Lib.hid hPre; have HB2 := Lib.hid hB2; clear hPre hB2 p0 p1 p2 hb2; refine Hid.out ?_))
  have hS2 : ∀ (x : Int), 0 ≤ x → x < 18446744073709551616 → ∀ w, PreOn w1 w (pHi (-q + 348).toNat) (pLo (-q + 348).toNat) (-(e + lp + 3)) → Calls Tryz.prog 224 #[.int .u64 x, .pointer (some ⟨w1.heap.size, 0, none⟩)] w fun r w' => r = .returned (.int .u64 (scl e (-q) x)) ∧ PreOn w1 w' (pHi (-q + 348).toNat) (pLo (-q + 348).toNat) (-(e + lp + 3)) :=
    fun x hx0 hx1 w h => (HS.out x hx0 hx1 w1.heap.size w h.pre).mono fun r w' ⟨he, hb⟩ => ⟨he, h.pre.on hb, belowOn h.below hb⟩
  have HPO : Hid (PreOn w1 w2 (pHi (-q + 348).toNat) (pLo (-q + 348).toNat) (-(e + lp + 3))) := Lib.hid ⟨HPre.out, HB2.out⟩
  clear HS HPre HB2
  have HS := Lib.hid hS2
  clear hS2
  have hPO := HPO.out
  clear HPO
  have HRt : Hid ((R1, R2) = sfTail m e q (IntKind.u64.wrap (m - 549755813888)) (IntKind.u64.wrap (m + 549755813888)) (bits BinOp.and IntKind.i64 (m / 1099511627776) 1)) := Lib.hid (by rw [HR.out.1, HR.out.2])
  unfold sfTail at HRt
  clear HR
  have hin := fun x => scl_in e (-q) x
  generalize scl e (-q) = U at HS HRt hin
  generalize pHi (-q + 348).toNat = ph at HS hPO
  generalize pLo (-q + 348).toNat = pl at HS hPO
  generalize (IntKind.u64.wrap (m - 549755813888)) = mn at HS HRt HN ⊢
  generalize (IntKind.u64.wrap (m + 549755813888)) = mx at HS HRt HN ⊢
  generalize (bits BinOp.and IntKind.i64 (m / 1099511627776) 1) = od at HRt ⊢
  obtain ⟨hU1, hU2⟩ := hin mn
  obtain ⟨hU3, hU4⟩ := hin mx
  clear hin
  refine Lib.hid ?_
  go_wp2_with (first
    | (go_at_call 224; refine (HS.out _ (by first | exact HN.out.1.1 | exact HN.out.2.1.1 | exact HN.out.2.2.1) (by first | exact HN.out.1.2 | exact HN.out.2.1.2 | exact HN.out.2.2.2) _ (by assumption)).mono ?_; rintro r w3 ⟨rfl, hpo⟩)
    | (go_at_call 225; refine (nudge_run _ _ _).mono ?_; rintro r w3 ⟨rfl, rfl⟩)
    | (go_at_call 226; refine (ceil_run _ _).mono ?_; rintro r w3 ⟨rfl, rfl⟩)
    | (go_at_call 227; refine (floor_run _ _).mono ?_; rintro r w3 ⟨rfl, rfl⟩)
    | (go_at_call 228; refine (round_run _ _).mono ?_; rintro r w3 ⟨rfl, rfl⟩))
  all_goals
    go_ret2
    refine ⟨?_, PreOn.below (by assumption)⟩
    have h := HRt.out

    first
      | (rw [if_pos (by assumption), if_pos (by assumption)] at h
         obtain ⟨rfl, rfl⟩ := Prod.mk.inj h
         rfl)
      | (rw [if_pos (by assumption), if_neg (by omega)] at h
         obtain ⟨rfl, rfl⟩ := Prod.mk.inj h
         rfl)
      | (rw [if_neg (by omega)] at h
         obtain ⟨rfl, rfl⟩ := Prod.mk.inj h
         rfl)
theorem short32_b2 (m e : Int) (hm0 : 0 ≤ m) (hm1 : m < 18446744073709551616) (he0 : -189 ≤ e) (he1 : e ≤ -189) (hm : (m == 9223372036854775808) = true) (w : World) (hp : PowAt w) (hw : 8 ≤ w.heap.size) :
    Calls Tryz.prog 202 #[.int .u64 m, .int .i64 e] w fun r w' => r = .returned (.tuple #[.int .u64 (sfTail m e ((e + 40) * 78913 / 262144) (IntKind.u64.wrap (m - 549755813888)) (IntKind.u64.wrap (m + 549755813888)) (bits BinOp.and IntKind.i64 (m / 1099511627776) 1)).1, .int .i64 (sfTail m e ((e + 40) * 78913 / 262144) (IntKind.u64.wrap (m - 549755813888)) (IntKind.u64.wrap (m + 549755813888)) (bits BinOp.and IntKind.i64 (m / 1099511627776) 1)).2]) ∧ Below w.heap.size w w' := by
  obtain ⟨q, hq⟩ : ∃ q, q = ((e + 40) * 78913 / 262144) := ⟨_, rfl⟩
  have hL := fun w => l10_run (e + 40) (by omega) (by omega) w
  rw [← hq] at hL ⊢
  have hq0 : -340 ≤ q := by omega
  have hq1 : q ≤ 340 := by omega
  clear hq
  obtain ⟨lp, hlp⟩ : ∃ lp, lp = (-q) * 108853 / 32768 := ⟨_, rfl⟩
  have hl0 : -2000 ≤ lp := by omega
  have hl1 : lp ≤ 2000 := by omega
  have hL2 := fun w => l2_run (-q) (by omega) (by omega) w
  rw [← hlp] at hL2
  have HL := Lib.hid hL
  have HL2 := Lib.hid hL2
  have HP := Lib.hid hp
  have HW := Lib.hid hw
  have HLP := Lib.hid hlp
  clear hL hL2 hp hw hlp
  obtain ⟨R1, hR1⟩ : ∃ r, r = (sfTail m e q (IntKind.u64.wrap (m - 549755813888)) (IntKind.u64.wrap (m + 549755813888)) (bits BinOp.and IntKind.i64 (m / 1099511627776) 1)).1 := ⟨_, rfl⟩
  obtain ⟨R2, hR2⟩ : ∃ r, r = (sfTail m e q (IntKind.u64.wrap (m - 549755813888)) (IntKind.u64.wrap (m + 549755813888)) (bits BinOp.and IntKind.i64 (m / 1099511627776) 1)).2 := ⟨_, rfl⟩
  rw [← hR1, ← hR2]
  have HR := Lib.hid (And.intro hR1 hR2)
  clear hR1 hR2
  have hmd : m / 1099511627776 < 9223372036854775808 := by omega
  have hmd0 : 0 ≤ m / 1099511627776 := by omega
  have hS := fun (x : Int) hx0 hx1 b w h => scl_run e (-q) x hx0 hx1 b w h
  rw [← HLP.out] at hS
  have HS := Lib.hid hS
  have hn0 : 0 ≤ (IntKind.u64.wrap (m - 549755813888)) := by rw [IntKind.wrap_u64]; omega
  have hn1 : (IntKind.u64.wrap (m - 549755813888)) < 18446744073709551616 := by rw [IntKind.wrap_u64]; omega
  have hx0 : 0 ≤ (IntKind.u64.wrap (m + 549755813888)) := by rw [IntKind.wrap_u64]; omega
  have hx1 : (IntKind.u64.wrap (m + 549755813888)) < 18446744073709551616 := by rw [IntKind.wrap_u64]; omega
  have HN := Lib.hid (And.intro (And.intro hm0 hm1) (And.intro (And.intro hn0 hn1) (And.intro hx0 hx1)))
  clear hS hn0 hn1 hx0 hx1
  go_enter Tryz.func202, Tryz.ntmps202
  go_wp2_with (first | (go_at_call 204; refine (HL.out _).mono ?_; rintro r w1 ⟨rfl, rfl⟩) | (go_at_call 223; refine (HL2.out _).mono ?_; rintro r w1 ⟨rfl, rfl⟩) | (go_at_call 222; refine (prescale_run w1.heap.size _ _ _ e (-q) lp _ (HP.out.keep (below_alloc w1 _) HW.out) (by omega) (by omega) (by omega) (by omega) hl0 hl1 HW.out (by simp; rfl) (by simp; rfl) (by simp; rfl) (by simp) (by simp) (by simp)).mono ?_; rintro r w2 ⟨rfl, hb2, p0, p1, p2⟩; have hB2 := Below.trans (below_alloc w1 _) hb2; have hPre := Pre.mk (w := w2) (b := w1.heap.size) (by have h := hb2.size; simp at h; omega) p0 p1 p2; have HPre := Lib.hid hPre; have HB2 := Lib.hid hB2; clear hPre hB2 p0 p1 p2 hb2; refine Hid.out ?_))
  have hS2 : ∀ (x : Int), 0 ≤ x → x < 18446744073709551616 → ∀ w, PreOn w1 w (pHi (-q + 348).toNat) (pLo (-q + 348).toNat) (-(e + lp + 3)) → Calls Tryz.prog 224 #[.int .u64 x, .pointer (some ⟨w1.heap.size, 0, none⟩)] w fun r w' => r = .returned (.int .u64 (scl e (-q) x)) ∧ PreOn w1 w' (pHi (-q + 348).toNat) (pLo (-q + 348).toNat) (-(e + lp + 3)) :=
    fun x hx0 hx1 w h => (HS.out x hx0 hx1 w1.heap.size w h.pre).mono fun r w' ⟨he, hb⟩ => ⟨he, h.pre.on hb, belowOn h.below hb⟩
  have HPO : Hid (PreOn w1 w2 (pHi (-q + 348).toNat) (pLo (-q + 348).toNat) (-(e + lp + 3))) := Lib.hid ⟨HPre.out, HB2.out⟩
  clear HS HPre HB2
  have HS := Lib.hid hS2
  clear hS2
  have hPO := HPO.out
  clear HPO
  have HRt : Hid ((R1, R2) = sfTail m e q (IntKind.u64.wrap (m - 549755813888)) (IntKind.u64.wrap (m + 549755813888)) (bits BinOp.and IntKind.i64 (m / 1099511627776) 1)) := Lib.hid (by rw [HR.out.1, HR.out.2])
  unfold sfTail at HRt
  clear HR
  have hin := fun x => scl_in e (-q) x
  generalize scl e (-q) = U at HS HRt hin
  generalize pHi (-q + 348).toNat = ph at HS hPO
  generalize pLo (-q + 348).toNat = pl at HS hPO
  generalize (IntKind.u64.wrap (m - 549755813888)) = mn at HS HRt HN ⊢
  generalize (IntKind.u64.wrap (m + 549755813888)) = mx at HS HRt HN ⊢
  generalize (bits BinOp.and IntKind.i64 (m / 1099511627776) 1) = od at HRt ⊢
  obtain ⟨hU1, hU2⟩ := hin mn
  obtain ⟨hU3, hU4⟩ := hin mx
  clear hin
  refine Lib.hid ?_
  go_wp2_with (first
    | (go_at_call 224; refine (HS.out _ (by first | exact HN.out.1.1 | exact HN.out.2.1.1 | exact HN.out.2.2.1) (by first | exact HN.out.1.2 | exact HN.out.2.1.2 | exact HN.out.2.2.2) _ (by assumption)).mono ?_; rintro r w3 ⟨rfl, hpo⟩)
    | (go_at_call 225; refine (nudge_run _ _ _).mono ?_; rintro r w3 ⟨rfl, rfl⟩)
    | (go_at_call 226; refine (ceil_run _ _).mono ?_; rintro r w3 ⟨rfl, rfl⟩)
    | (go_at_call 227; refine (floor_run _ _).mono ?_; rintro r w3 ⟨rfl, rfl⟩)
    | (go_at_call 228; refine (round_run _ _).mono ?_; rintro r w3 ⟨rfl, rfl⟩))
  all_goals
    go_ret2
    refine ⟨?_, PreOn.below (by assumption)⟩
    have h := HRt.out

    first
      | (rw [if_pos (by assumption), if_pos (by assumption)] at h
         obtain ⟨rfl, rfl⟩ := Prod.mk.inj h
         rfl)
      | (rw [if_pos (by assumption), if_neg (by omega)] at h
         obtain ⟨rfl, rfl⟩ := Prod.mk.inj h
         rfl)
      | (rw [if_neg (by omega)] at h
         obtain ⟨rfl, rfl⟩ := Prod.mk.inj h
         rfl)
theorem short32_a (m e : Int) (hm0 : 0 ≤ m) (hm1 : m < 18446744073709551616) (he0 : -189 < e) (he1 : e ≤ 1000) (hm : (m == 9223372036854775808) = true) (w : World) (hp : PowAt w) (hw : 8 ≤ w.heap.size) :
    Calls Tryz.prog 202 #[.int .u64 m, .int .i64 e] w fun r w' => r = .returned (.tuple #[.int .u64 (sfTail m e (((e + 40) * 631305 - 261663) / 2097152) (IntKind.u64.wrap (m - 274877906944)) (IntKind.u64.wrap (m + 549755813888)) (bits BinOp.and IntKind.i64 (m / 1099511627776) 1)).1, .int .i64 (sfTail m e (((e + 40) * 631305 - 261663) / 2097152) (IntKind.u64.wrap (m - 274877906944)) (IntKind.u64.wrap (m + 549755813888)) (bits BinOp.and IntKind.i64 (m / 1099511627776) 1)).2]) ∧ Below w.heap.size w w' := by
  obtain ⟨q, hq⟩ : ∃ q, q = (((e + 40) * 631305 - 261663) / 2097152) := ⟨_, rfl⟩
  have hL := fun w => skewed_run (e + 40) (by omega) (by omega) w
  rw [← hq] at hL ⊢
  have hq0 : -340 ≤ q := by omega
  have hq1 : q ≤ 340 := by omega
  clear hq
  obtain ⟨lp, hlp⟩ : ∃ lp, lp = (-q) * 108853 / 32768 := ⟨_, rfl⟩
  have hl0 : -2000 ≤ lp := by omega
  have hl1 : lp ≤ 2000 := by omega
  have hL2 := fun w => l2_run (-q) (by omega) (by omega) w
  rw [← hlp] at hL2
  have HL := Lib.hid hL
  have HL2 := Lib.hid hL2
  have HP := Lib.hid hp
  have HW := Lib.hid hw
  have HLP := Lib.hid hlp
  clear hL hL2 hp hw hlp
  obtain ⟨R1, hR1⟩ : ∃ r, r = (sfTail m e q (IntKind.u64.wrap (m - 274877906944)) (IntKind.u64.wrap (m + 549755813888)) (bits BinOp.and IntKind.i64 (m / 1099511627776) 1)).1 := ⟨_, rfl⟩
  obtain ⟨R2, hR2⟩ : ∃ r, r = (sfTail m e q (IntKind.u64.wrap (m - 274877906944)) (IntKind.u64.wrap (m + 549755813888)) (bits BinOp.and IntKind.i64 (m / 1099511627776) 1)).2 := ⟨_, rfl⟩
  rw [← hR1, ← hR2]
  have HR := Lib.hid (And.intro hR1 hR2)
  clear hR1 hR2
  have hmd : m / 1099511627776 < 9223372036854775808 := by omega
  have hmd0 : 0 ≤ m / 1099511627776 := by omega
  have hS := fun (x : Int) hx0 hx1 b w h => scl_run e (-q) x hx0 hx1 b w h
  rw [← HLP.out] at hS
  have HS := Lib.hid hS
  have hn0 : 0 ≤ (IntKind.u64.wrap (m - 274877906944)) := by rw [IntKind.wrap_u64]; omega
  have hn1 : (IntKind.u64.wrap (m - 274877906944)) < 18446744073709551616 := by rw [IntKind.wrap_u64]; omega
  have hx0 : 0 ≤ (IntKind.u64.wrap (m + 549755813888)) := by rw [IntKind.wrap_u64]; omega
  have hx1 : (IntKind.u64.wrap (m + 549755813888)) < 18446744073709551616 := by rw [IntKind.wrap_u64]; omega
  have HN := Lib.hid (And.intro (And.intro hm0 hm1) (And.intro (And.intro hn0 hn1) (And.intro hx0 hx1)))
  clear hS hn0 hn1 hx0 hx1
  go_enter Tryz.func202, Tryz.ntmps202
  go_wp2_with (first | (go_at_call 221; refine (HL.out _).mono ?_; rintro r w1 ⟨rfl, rfl⟩) | (go_at_call 223; refine (HL2.out _).mono ?_; rintro r w1 ⟨rfl, rfl⟩) | (go_at_call 222; refine (prescale_run w1.heap.size _ _ _ e (-q) lp _ (HP.out.keep (below_alloc w1 _) HW.out) (by omega) (by omega) (by omega) (by omega) hl0 hl1 HW.out (by simp; rfl) (by simp; rfl) (by simp; rfl) (by simp) (by simp) (by simp)).mono ?_; rintro r w2 ⟨rfl, hb2, p0, p1, p2⟩; have hB2 := Below.trans (below_alloc w1 _) hb2; have hPre := Pre.mk (w := w2) (b := w1.heap.size) (by have h := hb2.size; simp at h; omega) p0 p1 p2; have HPre := Lib.hid hPre; have HB2 := Lib.hid hB2; clear hPre hB2 p0 p1 p2 hb2; refine Hid.out ?_))
  have hS2 : ∀ (x : Int), 0 ≤ x → x < 18446744073709551616 → ∀ w, PreOn w1 w (pHi (-q + 348).toNat) (pLo (-q + 348).toNat) (-(e + lp + 3)) → Calls Tryz.prog 224 #[.int .u64 x, .pointer (some ⟨w1.heap.size, 0, none⟩)] w fun r w' => r = .returned (.int .u64 (scl e (-q) x)) ∧ PreOn w1 w' (pHi (-q + 348).toNat) (pLo (-q + 348).toNat) (-(e + lp + 3)) :=
    fun x hx0 hx1 w h => (HS.out x hx0 hx1 w1.heap.size w h.pre).mono fun r w' ⟨he, hb⟩ => ⟨he, h.pre.on hb, belowOn h.below hb⟩
  have HPO : Hid (PreOn w1 w2 (pHi (-q + 348).toNat) (pLo (-q + 348).toNat) (-(e + lp + 3))) := Lib.hid ⟨HPre.out, HB2.out⟩
  clear HS HPre HB2
  have HS := Lib.hid hS2
  clear hS2
  have hPO := HPO.out
  clear HPO
  have HRt : Hid ((R1, R2) = sfTail m e q (IntKind.u64.wrap (m - 274877906944)) (IntKind.u64.wrap (m + 549755813888)) (bits BinOp.and IntKind.i64 (m / 1099511627776) 1)) := Lib.hid (by rw [HR.out.1, HR.out.2])
  unfold sfTail at HRt
  clear HR
  have hin := fun x => scl_in e (-q) x
  generalize scl e (-q) = U at HS HRt hin
  generalize pHi (-q + 348).toNat = ph at HS hPO
  generalize pLo (-q + 348).toNat = pl at HS hPO
  generalize (IntKind.u64.wrap (m - 274877906944)) = mn at HS HRt HN ⊢
  generalize (IntKind.u64.wrap (m + 549755813888)) = mx at HS HRt HN ⊢
  generalize (bits BinOp.and IntKind.i64 (m / 1099511627776) 1) = od at HRt ⊢
  obtain ⟨hU1, hU2⟩ := hin mn
  obtain ⟨hU3, hU4⟩ := hin mx
  clear hin
  refine Lib.hid ?_
  go_wp2_with (first
    | (go_at_call 224; refine (HS.out _ (by first | exact HN.out.1.1 | exact HN.out.2.1.1 | exact HN.out.2.2.1) (by first | exact HN.out.1.2 | exact HN.out.2.1.2 | exact HN.out.2.2.2) _ (by assumption)).mono ?_; rintro r w3 ⟨rfl, hpo⟩)
    | (go_at_call 225; refine (nudge_run _ _ _).mono ?_; rintro r w3 ⟨rfl, rfl⟩)
    | (go_at_call 226; refine (ceil_run _ _).mono ?_; rintro r w3 ⟨rfl, rfl⟩)
    | (go_at_call 227; refine (floor_run _ _).mono ?_; rintro r w3 ⟨rfl, rfl⟩)
    | (go_at_call 228; refine (round_run _ _).mono ?_; rintro r w3 ⟨rfl, rfl⟩))
  all_goals
    go_ret2
    refine ⟨?_, PreOn.below (by assumption)⟩
    have h := HRt.out

    first
      | (rw [if_pos (by assumption), if_pos (by assumption)] at h
         obtain ⟨rfl, rfl⟩ := Prod.mk.inj h
         rfl)
      | (rw [if_pos (by assumption), if_neg (by omega)] at h
         obtain ⟨rfl, rfl⟩ := Prod.mk.inj h
         rfl)
      | (rw [if_neg (by omega)] at h
         obtain ⟨rfl, rfl⟩ := Prod.mk.inj h
         rfl)
theorem short32_c (m e : Int) (hm0 : 0 ≤ m) (hm1 : m < 18446744073709551616) (he0 : -213 ≤ e) (he1 : e < -189) (hm : (m == 9223372036854775808) = false) (w : World) (hp : PowAt w) (hw : 8 ≤ w.heap.size) :
    Calls Tryz.prog 202 #[.int .u64 m, .int .i64 e] w fun r w' => r = .returned (.tuple #[.int .u64 (sfTail m e ((e + (40 + (-189 - e))) * 78913 / 262144) (IntKind.u64.wrap (m - IntKind.u64.wrap (2 ^ ((40 + (-189 - e)).toNat - 1)))) (IntKind.u64.wrap (m + IntKind.u64.wrap (2 ^ ((40 + (-189 - e)).toNat - 1)))) (bits BinOp.and IntKind.i64 (wrap64 (m / 2 ^ (40 + (-189 - e)).toNat)) 1)).1, .int .i64 (sfTail m e ((e + (40 + (-189 - e))) * 78913 / 262144) (IntKind.u64.wrap (m - IntKind.u64.wrap (2 ^ ((40 + (-189 - e)).toNat - 1)))) (IntKind.u64.wrap (m + IntKind.u64.wrap (2 ^ ((40 + (-189 - e)).toNat - 1)))) (bits BinOp.and IntKind.i64 (wrap64 (m / 2 ^ (40 + (-189 - e)).toNat)) 1)).2]) ∧ Below w.heap.size w w' := by
  obtain ⟨q, hq⟩ : ∃ q, q = ((e + (40 + (-189 - e))) * 78913 / 262144) := ⟨_, rfl⟩
  have hL := fun w => l10_run (e + (40 + (-189 - e))) (by omega) (by omega) w
  rw [← hq] at hL ⊢
  have hq0 : -340 ≤ q := by omega
  have hq1 : q ≤ 340 := by omega
  clear hq
  obtain ⟨lp, hlp⟩ : ∃ lp, lp = (-q) * 108853 / 32768 := ⟨_, rfl⟩
  have hl0 : -2000 ≤ lp := by omega
  have hl1 : lp ≤ 2000 := by omega
  have hL2 := fun w => l2_run (-q) (by omega) (by omega) w
  rw [← hlp] at hL2
  have HL := Lib.hid hL
  have HL2 := Lib.hid hL2
  have HP := Lib.hid hp
  have HW := Lib.hid hw
  have HLP := Lib.hid hlp
  clear hL hL2 hp hw hlp
  obtain ⟨R1, hR1⟩ : ∃ r, r = (sfTail m e q (IntKind.u64.wrap (m - IntKind.u64.wrap (2 ^ ((40 + (-189 - e)).toNat - 1)))) (IntKind.u64.wrap (m + IntKind.u64.wrap (2 ^ ((40 + (-189 - e)).toNat - 1)))) (bits BinOp.and IntKind.i64 (wrap64 (m / 2 ^ (40 + (-189 - e)).toNat)) 1)).1 := ⟨_, rfl⟩
  obtain ⟨R2, hR2⟩ : ∃ r, r = (sfTail m e q (IntKind.u64.wrap (m - IntKind.u64.wrap (2 ^ ((40 + (-189 - e)).toNat - 1)))) (IntKind.u64.wrap (m + IntKind.u64.wrap (2 ^ ((40 + (-189 - e)).toNat - 1)))) (bits BinOp.and IntKind.i64 (wrap64 (m / 2 ^ (40 + (-189 - e)).toNat)) 1)).2 := ⟨_, rfl⟩
  rw [← hR1, ← hR2]
  have HR := Lib.hid (And.intro hR1 hR2)
  clear hR1 hR2
  have hz0 : 0 ≤ (40 + (-189 - e)) := by omega
  have hz1 : (40 + (-189 - e)) ≤ 64 := by omega
  have hS := fun (x : Int) hx0 hx1 b w h => scl_run e (-q) x hx0 hx1 b w h
  rw [← HLP.out] at hS
  have HS := Lib.hid hS
  have hn0 : 0 ≤ (IntKind.u64.wrap (m - IntKind.u64.wrap (2 ^ ((40 + (-189 - e)).toNat - 1)))) := by rw [IntKind.wrap_u64]; omega
  have hn1 : (IntKind.u64.wrap (m - IntKind.u64.wrap (2 ^ ((40 + (-189 - e)).toNat - 1)))) < 18446744073709551616 := by rw [IntKind.wrap_u64]; omega
  have hx0 : 0 ≤ (IntKind.u64.wrap (m + IntKind.u64.wrap (2 ^ ((40 + (-189 - e)).toNat - 1)))) := by rw [IntKind.wrap_u64]; omega
  have hx1 : (IntKind.u64.wrap (m + IntKind.u64.wrap (2 ^ ((40 + (-189 - e)).toNat - 1)))) < 18446744073709551616 := by rw [IntKind.wrap_u64]; omega
  have HN := Lib.hid (And.intro (And.intro hm0 hm1) (And.intro (And.intro hn0 hn1) (And.intro hx0 hx1)))
  clear hS hn0 hn1 hx0 hx1
  go_enter Tryz.func202, Tryz.ntmps202
  go_wp2_with (first | (go_at_call 204; refine (HL.out _).mono ?_; rintro r w1 ⟨rfl, rfl⟩) | (go_at_call 223; refine (HL2.out _).mono ?_; rintro r w1 ⟨rfl, rfl⟩) | (go_at_call 222; refine (prescale_run w1.heap.size _ _ _ e (-q) lp _ (HP.out.keep (below_alloc w1 _) HW.out) (by omega) (by omega) (by omega) (by omega) hl0 hl1 HW.out (by simp; rfl) (by simp; rfl) (by simp; rfl) (by simp) (by simp) (by simp)).mono ?_; rintro r w2 ⟨rfl, hb2, p0, p1, p2⟩; have hB2 := Below.trans (below_alloc w1 _) hb2; have hPre := Pre.mk (w := w2) (b := w1.heap.size) (by have h := hb2.size; simp at h; omega) p0 p1 p2; have HPre := Lib.hid hPre; have HB2 := Lib.hid hB2; clear hPre hB2 p0 p1 p2 hb2; refine Hid.out ?_))
  have hS2 : ∀ (x : Int), 0 ≤ x → x < 18446744073709551616 → ∀ w, PreOn w1 w (pHi (-q + 348).toNat) (pLo (-q + 348).toNat) (-(e + lp + 3)) → Calls Tryz.prog 224 #[.int .u64 x, .pointer (some ⟨w1.heap.size, 0, none⟩)] w fun r w' => r = .returned (.int .u64 (scl e (-q) x)) ∧ PreOn w1 w' (pHi (-q + 348).toNat) (pLo (-q + 348).toNat) (-(e + lp + 3)) :=
    fun x hx0 hx1 w h => (HS.out x hx0 hx1 w1.heap.size w h.pre).mono fun r w' ⟨he, hb⟩ => ⟨he, h.pre.on hb, belowOn h.below hb⟩
  have HPO : Hid (PreOn w1 w2 (pHi (-q + 348).toNat) (pLo (-q + 348).toNat) (-(e + lp + 3))) := Lib.hid ⟨HPre.out, HB2.out⟩
  clear HS HPre HB2
  have HS := Lib.hid hS2
  clear hS2
  have hPO := HPO.out
  clear HPO
  have HRt : Hid ((R1, R2) = sfTail m e q (IntKind.u64.wrap (m - IntKind.u64.wrap (2 ^ ((40 + (-189 - e)).toNat - 1)))) (IntKind.u64.wrap (m + IntKind.u64.wrap (2 ^ ((40 + (-189 - e)).toNat - 1)))) (bits BinOp.and IntKind.i64 (wrap64 (m / 2 ^ (40 + (-189 - e)).toNat)) 1)) := Lib.hid (by rw [HR.out.1, HR.out.2])
  unfold sfTail at HRt
  clear HR
  have hin := fun x => scl_in e (-q) x
  generalize scl e (-q) = U at HS HRt hin
  generalize pHi (-q + 348).toNat = ph at HS hPO
  generalize pLo (-q + 348).toNat = pl at HS hPO
  generalize (IntKind.u64.wrap (m - IntKind.u64.wrap (2 ^ ((40 + (-189 - e)).toNat - 1)))) = mn at HS HRt HN ⊢
  generalize (IntKind.u64.wrap (m + IntKind.u64.wrap (2 ^ ((40 + (-189 - e)).toNat - 1)))) = mx at HS HRt HN ⊢
  generalize (bits BinOp.and IntKind.i64 (wrap64 (m / 2 ^ (40 + (-189 - e)).toNat)) 1) = od at HRt ⊢
  obtain ⟨hU1, hU2⟩ := hin mn
  obtain ⟨hU3, hU4⟩ := hin mx
  clear hin
  refine Lib.hid ?_
  go_wp2_with (first
    | (go_at_call 224; refine (HS.out _ (by first | exact HN.out.1.1 | exact HN.out.2.1.1 | exact HN.out.2.2.1) (by first | exact HN.out.1.2 | exact HN.out.2.1.2 | exact HN.out.2.2.2) _ (by assumption)).mono ?_; rintro r w3 ⟨rfl, hpo⟩)
    | (go_at_call 225; refine (nudge_run _ _ _).mono ?_; rintro r w3 ⟨rfl, rfl⟩)
    | (go_at_call 226; refine (ceil_run _ _).mono ?_; rintro r w3 ⟨rfl, rfl⟩)
    | (go_at_call 227; refine (floor_run _ _).mono ?_; rintro r w3 ⟨rfl, rfl⟩)
    | (go_at_call 228; refine (round_run _ _).mono ?_; rintro r w3 ⟨rfl, rfl⟩))
  all_goals
    go_ret2
    refine ⟨?_, PreOn.below (by assumption)⟩
    have h := HRt.out

    first
      | (rw [if_pos (by assumption), if_pos (by assumption)] at h
         obtain ⟨rfl, rfl⟩ := Prod.mk.inj h
         rfl)
      | (rw [if_pos (by assumption), if_neg (by omega)] at h
         obtain ⟨rfl, rfl⟩ := Prod.mk.inj h
         rfl)
      | (rw [if_neg (by omega)] at h
         obtain ⟨rfl, rfl⟩ := Prod.mk.inj h
         rfl)
theorem short32_c2 (m e : Int) (hm0 : 0 ≤ m) (hm1 : m < 18446744073709551616) (he0 : -213 ≤ e) (he1 : e < -189) (hm : (m == 9223372036854775808) = true) (w : World) (hp : PowAt w) (hw : 8 ≤ w.heap.size) :
    Calls Tryz.prog 202 #[.int .u64 m, .int .i64 e] w fun r w' => r = .returned (.tuple #[.int .u64 (sfTail m e ((e + (40 + (-189 - e))) * 78913 / 262144) (IntKind.u64.wrap (m - IntKind.u64.wrap (2 ^ ((40 + (-189 - e)).toNat - 1)))) (IntKind.u64.wrap (m + IntKind.u64.wrap (2 ^ ((40 + (-189 - e)).toNat - 1)))) (bits BinOp.and IntKind.i64 (wrap64 (m / 2 ^ (40 + (-189 - e)).toNat)) 1)).1, .int .i64 (sfTail m e ((e + (40 + (-189 - e))) * 78913 / 262144) (IntKind.u64.wrap (m - IntKind.u64.wrap (2 ^ ((40 + (-189 - e)).toNat - 1)))) (IntKind.u64.wrap (m + IntKind.u64.wrap (2 ^ ((40 + (-189 - e)).toNat - 1)))) (bits BinOp.and IntKind.i64 (wrap64 (m / 2 ^ (40 + (-189 - e)).toNat)) 1)).2]) ∧ Below w.heap.size w w' := by
  obtain ⟨q, hq⟩ : ∃ q, q = ((e + (40 + (-189 - e))) * 78913 / 262144) := ⟨_, rfl⟩
  have hL := fun w => l10_run (e + (40 + (-189 - e))) (by omega) (by omega) w
  rw [← hq] at hL ⊢
  have hq0 : -340 ≤ q := by omega
  have hq1 : q ≤ 340 := by omega
  clear hq
  obtain ⟨lp, hlp⟩ : ∃ lp, lp = (-q) * 108853 / 32768 := ⟨_, rfl⟩
  have hl0 : -2000 ≤ lp := by omega
  have hl1 : lp ≤ 2000 := by omega
  have hL2 := fun w => l2_run (-q) (by omega) (by omega) w
  rw [← hlp] at hL2
  have HL := Lib.hid hL
  have HL2 := Lib.hid hL2
  have HP := Lib.hid hp
  have HW := Lib.hid hw
  have HLP := Lib.hid hlp
  clear hL hL2 hp hw hlp
  obtain ⟨R1, hR1⟩ : ∃ r, r = (sfTail m e q (IntKind.u64.wrap (m - IntKind.u64.wrap (2 ^ ((40 + (-189 - e)).toNat - 1)))) (IntKind.u64.wrap (m + IntKind.u64.wrap (2 ^ ((40 + (-189 - e)).toNat - 1)))) (bits BinOp.and IntKind.i64 (wrap64 (m / 2 ^ (40 + (-189 - e)).toNat)) 1)).1 := ⟨_, rfl⟩
  obtain ⟨R2, hR2⟩ : ∃ r, r = (sfTail m e q (IntKind.u64.wrap (m - IntKind.u64.wrap (2 ^ ((40 + (-189 - e)).toNat - 1)))) (IntKind.u64.wrap (m + IntKind.u64.wrap (2 ^ ((40 + (-189 - e)).toNat - 1)))) (bits BinOp.and IntKind.i64 (wrap64 (m / 2 ^ (40 + (-189 - e)).toNat)) 1)).2 := ⟨_, rfl⟩
  rw [← hR1, ← hR2]
  have HR := Lib.hid (And.intro hR1 hR2)
  clear hR1 hR2
  have hz0 : 0 ≤ (40 + (-189 - e)) := by omega
  have hz1 : (40 + (-189 - e)) ≤ 64 := by omega
  have hS := fun (x : Int) hx0 hx1 b w h => scl_run e (-q) x hx0 hx1 b w h
  rw [← HLP.out] at hS
  have HS := Lib.hid hS
  have hn0 : 0 ≤ (IntKind.u64.wrap (m - IntKind.u64.wrap (2 ^ ((40 + (-189 - e)).toNat - 1)))) := by rw [IntKind.wrap_u64]; omega
  have hn1 : (IntKind.u64.wrap (m - IntKind.u64.wrap (2 ^ ((40 + (-189 - e)).toNat - 1)))) < 18446744073709551616 := by rw [IntKind.wrap_u64]; omega
  have hx0 : 0 ≤ (IntKind.u64.wrap (m + IntKind.u64.wrap (2 ^ ((40 + (-189 - e)).toNat - 1)))) := by rw [IntKind.wrap_u64]; omega
  have hx1 : (IntKind.u64.wrap (m + IntKind.u64.wrap (2 ^ ((40 + (-189 - e)).toNat - 1)))) < 18446744073709551616 := by rw [IntKind.wrap_u64]; omega
  have HN := Lib.hid (And.intro (And.intro hm0 hm1) (And.intro (And.intro hn0 hn1) (And.intro hx0 hx1)))
  clear hS hn0 hn1 hx0 hx1
  go_enter Tryz.func202, Tryz.ntmps202
  go_wp2_with (first | (go_at_call 204; refine (HL.out _).mono ?_; rintro r w1 ⟨rfl, rfl⟩) | (go_at_call 223; refine (HL2.out _).mono ?_; rintro r w1 ⟨rfl, rfl⟩) | (go_at_call 222; refine (prescale_run w1.heap.size _ _ _ e (-q) lp _ (HP.out.keep (below_alloc w1 _) HW.out) (by omega) (by omega) (by omega) (by omega) hl0 hl1 HW.out (by simp; rfl) (by simp; rfl) (by simp; rfl) (by simp) (by simp) (by simp)).mono ?_; rintro r w2 ⟨rfl, hb2, p0, p1, p2⟩; have hB2 := Below.trans (below_alloc w1 _) hb2; have hPre := Pre.mk (w := w2) (b := w1.heap.size) (by have h := hb2.size; simp at h; omega) p0 p1 p2; have HPre := Lib.hid hPre; have HB2 := Lib.hid hB2; clear hPre hB2 p0 p1 p2 hb2; refine Hid.out ?_))
  have hS2 : ∀ (x : Int), 0 ≤ x → x < 18446744073709551616 → ∀ w, PreOn w1 w (pHi (-q + 348).toNat) (pLo (-q + 348).toNat) (-(e + lp + 3)) → Calls Tryz.prog 224 #[.int .u64 x, .pointer (some ⟨w1.heap.size, 0, none⟩)] w fun r w' => r = .returned (.int .u64 (scl e (-q) x)) ∧ PreOn w1 w' (pHi (-q + 348).toNat) (pLo (-q + 348).toNat) (-(e + lp + 3)) :=
    fun x hx0 hx1 w h => (HS.out x hx0 hx1 w1.heap.size w h.pre).mono fun r w' ⟨he, hb⟩ => ⟨he, h.pre.on hb, belowOn h.below hb⟩
  have HPO : Hid (PreOn w1 w2 (pHi (-q + 348).toNat) (pLo (-q + 348).toNat) (-(e + lp + 3))) := Lib.hid ⟨HPre.out, HB2.out⟩
  clear HS HPre HB2
  have HS := Lib.hid hS2
  clear hS2
  have hPO := HPO.out
  clear HPO
  have HRt : Hid ((R1, R2) = sfTail m e q (IntKind.u64.wrap (m - IntKind.u64.wrap (2 ^ ((40 + (-189 - e)).toNat - 1)))) (IntKind.u64.wrap (m + IntKind.u64.wrap (2 ^ ((40 + (-189 - e)).toNat - 1)))) (bits BinOp.and IntKind.i64 (wrap64 (m / 2 ^ (40 + (-189 - e)).toNat)) 1)) := Lib.hid (by rw [HR.out.1, HR.out.2])
  unfold sfTail at HRt
  clear HR
  have hin := fun x => scl_in e (-q) x
  generalize scl e (-q) = U at HS HRt hin
  generalize pHi (-q + 348).toNat = ph at HS hPO
  generalize pLo (-q + 348).toNat = pl at HS hPO
  generalize (IntKind.u64.wrap (m - IntKind.u64.wrap (2 ^ ((40 + (-189 - e)).toNat - 1)))) = mn at HS HRt HN ⊢
  generalize (IntKind.u64.wrap (m + IntKind.u64.wrap (2 ^ ((40 + (-189 - e)).toNat - 1)))) = mx at HS HRt HN ⊢
  generalize (bits BinOp.and IntKind.i64 (wrap64 (m / 2 ^ (40 + (-189 - e)).toNat)) 1) = od at HRt ⊢
  obtain ⟨hU1, hU2⟩ := hin mn
  obtain ⟨hU3, hU4⟩ := hin mx
  clear hin
  refine Lib.hid ?_
  go_wp2_with (first
    | (go_at_call 224; refine (HS.out _ (by first | exact HN.out.1.1 | exact HN.out.2.1.1 | exact HN.out.2.2.1) (by first | exact HN.out.1.2 | exact HN.out.2.1.2 | exact HN.out.2.2.2) _ (by assumption)).mono ?_; rintro r w3 ⟨rfl, hpo⟩)
    | (go_at_call 225; refine (nudge_run _ _ _).mono ?_; rintro r w3 ⟨rfl, rfl⟩)
    | (go_at_call 226; refine (ceil_run _ _).mono ?_; rintro r w3 ⟨rfl, rfl⟩)
    | (go_at_call 227; refine (floor_run _ _).mono ?_; rintro r w3 ⟨rfl, rfl⟩)
    | (go_at_call 228; refine (round_run _ _).mono ?_; rintro r w3 ⟨rfl, rfl⟩))
  all_goals
    go_ret2
    refine ⟨?_, PreOn.below (by assumption)⟩
    have h := HRt.out

    first
      | (rw [if_pos (by assumption), if_pos (by assumption)] at h
         obtain ⟨rfl, rfl⟩ := Prod.mk.inj h
         rfl)
      | (rw [if_pos (by assumption), if_neg (by omega)] at h
         obtain ⟨rfl, rfl⟩ := Prod.mk.inj h
         rfl)
      | (rw [if_neg (by omega)] at h
         obtain ⟨rfl, rfl⟩ := Prod.mk.inj h
         rfl)
end Go.Proofs.YtnggkkdcddpjlaaGreatDoor
