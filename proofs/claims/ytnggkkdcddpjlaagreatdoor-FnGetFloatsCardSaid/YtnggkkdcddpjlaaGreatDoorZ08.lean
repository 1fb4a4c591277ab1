/- strconv's decimal: floatBits at 32 bits. strconv's decimal: floatBits at 32 bits, whole. -/
import Derived.Test.YtnggkkdcddpjlaaGreatDoorZ07
namespace Go.Proofs.YtnggkkdcddpjlaaGreatDoor
open Go.RowKit
set_option maxRecDepth 100000
set_option linter.unusedVariables false
set_option linter.unusedSimpArgs false
/-- The bits of a float of 32 bits: its mantissa, its exponent's field. -/
def fbV32 (ng : Bool) (mant d : Int) : Int := if ng = true then bits .or .u64 (bits .or .u64 (bits .and .u64 mant 8388607) (IntKind.u64.wrap (IntKind.u64.wrap (bits .and .i64 d 255) * 8388608))) 2147483648 else bits .or .u64 (bits .and .u64 mant 8388607) (IntKind.u64.wrap (IntKind.u64.wrap (bits .and .i64 d 255) * 8388608))
def fbRes32 (ng : Bool) (M e : Int) : Int × Bool :=
  if 255 ≤ e + 127 then (fbV32 ng 0 255, true)
  else if M = 16777216 then (if 255 ≤ e + 1 + 127 then (fbV32 ng 0 255, true) else if (bits .and .u64 (M / 2) 8388608 == 0) = true then (fbV32 ng (M / 2) 0, false) else (fbV32 ng (M / 2) (e + 1 + 127), false))
  else if (bits .and .u64 M 8388608 == 0) = true then (fbV32 ng M 0, false) else (fbV32 ng M (e + 127), false)
def fbY32 (z : FB) : Dec := if z.e - 1 < -126 then shR 1600 (-126 - (z.e - 1)).toNat z.x else z.x
def fbE32 (z : FB) : Int := if z.e - 1 < -126 then -126 else z.e - 1
set_option maxHeartbeats 4000000 in
theorem fb_main32 (Z1 Z2 : FB) (hZ1 : FRI Z1) (hN1 : stepR Z1 = none) (hZ2 : FLI Z2) (hN2 : stepL chD chL chC Z2 = none) (x : Dec) (hx : DecI x) (hlo : -330 ≤ x.dp) (hhi : x.dp ≤ 310) (hE1 : Ends stepR ⟨x, 0⟩ Z1) (hE2 : Ends (stepL chD chL chC) Z1 Z2)
    (v : Int) (o : Bool) (hvo : (v, o) = fbRes32 (lsN chD chL chC 24 (fbY32 Z2)).ng (rint (lsN chD chL chC 24 (fbY32 Z2))) (fbE32 Z2)) (B b : Nat) (w : World) (hB : B ≤ b) (hFB : 5 < B) (hF : FltAt w 5 23 8 (-127)) (hT : Flow B w) (h : DecAt w b x) : Calls Tryz.prog 247 #[.pointer (some ⟨b, 0, none⟩), .pointer (some ⟨5, 0, none⟩)] w (FbPost B w v o) := by
  obtain ⟨Q, hQ⟩ : ∃ Q, Q = FbPost B w v o := ⟨_, rfl⟩
  rw [← hQ]
  have HQ := Lib.hid hQ
  have hnd := h.nd
  have hdp := h.dp
  have hne : ((x.nd : Int) == 0) = false := by have := hx.nd0; simp; omega
  have H := Lib.hid h
  have HX := Lib.hid hx
  have HZ1 := Lib.hid hZ1
  have HZ2 := Lib.hid hZ2
  have HN1 := Lib.hid hN1
  have HN2 := Lib.hid hN2
  have HE1 := Lib.hid hE1
  have HE2 := Lib.hid hE2
  have HF := Lib.hid hF
  have HT := Lib.hid hT
  have HVO := Lib.hid hvo
  clear hvo
  clear hQ hx h hF hT hZ1 hZ2 hN1 hN2 hE1 hE2
  go_enter Tryz.func247, Tryz.ntmps247
  go_wp2_with fail
  refine wp_scope_name 2 (fun K HK => ?_)
  go_wp2_with fail
  clear hnd hdp hne
  go_loopg [6] (muR ⟨x, 0⟩) (fun g se wr => ∃ y : FB, g = muR y ∧ se = .int .i64 y.e ∧ FRI y ∧ Ends stepR y Z1 ∧ DecAt wr b y.x ∧ Below B w wr)
  case atStart => exact ⟨⟨x, 0⟩, rfl, rfl, stepR_start x HX.out hlo hhi, HE1.out, H.out, Below.refl _ _⟩
  case round =>
    obtain ⟨⟨y, e⟩, rfl, rfl, h1, h2, h3, h4⟩ := hrel
    have H1 := Lib.hid h1
    have H2 := Lib.hid h2
    have H3 := Lib.hid h3
    have H4 := Lib.hid h4
    have e0 := h1.e0
    have e1 := h1.e1
    have d0 := h1.lo
    have d1 := h1.hi
    have hdp := h3.dp
    dsimp only at e0 e1 d0 d1 hdp
    clear h1 h2 h3 h4
    by_cases hp : 0 < y.dp
    · obtain ⟨k, hk⟩ : ∃ k : Nat, y.dp = k := ⟨y.dp.toNat, by omega⟩
      obtain ⟨t1, t2⟩ := tab_le y.dp (by omega)
      have HSt := Lib.hid (stepR_keep ⟨y, e⟩ ⟨rsX (tabN y.dp) (p2 (tabN y.dp)) y, e + tabN y.dp⟩ H1.out (by unfold stepR; rw [if_pos hp]))
      have HSn : Hid (Ends stepR ⟨rsX (tabN y.dp) (p2 (tabN y.dp)) y, e + tabN y.dp⟩ Z1) := Lib.hid (H2.out.next (by unfold stepR; rw [if_pos hp]))
      obtain ⟨g, o, hg1, hg2, hg3⟩ := ((HT.out.keep H4.out).pw)
      have HR := fun (m : Nat) => shift_right 0 (tabN y.dp) t1 (by omega) (by omega) y H1.out.x (by omega) (by omega) B b hB (wr.drewN m) (H3.out.drewN m)
      have HRR := Lib.hid HR
      clear HR
      have htab : 9 ≤ y.dp → tabN y.dp = 27 := fun h => if_pos h
      obtain ⟨T, hT⟩ : ∃ T, T = tabN y.dp := ⟨_, rfl⟩
      rw [← hT] at t1 t2 HSt HSn HRR htab
      have HTT := Lib.hid hT
      have HTab := Lib.hid htab
      clear hT htab
      rw [hk] at hdp hp d0 d1
      have HK0 := Lib.hid hk
      clear hk
      have hk0 : (0 : Int) ≤ k := by omega
      have hk0b : decide ((0 : Int) < k) = true := by simpa using hp
      have hk0c : decide (0 < k) = true := by simpa using hp
      by_cases h9 : 9 ≤ k
      · have h9b : (9 : Int) ≤ k := by omega
        have hT27 : T = 27 := HTab.out (by rw [HK0.out]; exact h9b)
        subst hT27
        have hd9 : decide ((9 : Int) ≤ k) = true := by simpa using h9b
        have hd9b : decide (9 ≤ k) = true := by simpa using h9
        clear hg3
        go_wp2_with fail
        go_quiet (fail)
        go_wp2_with (go_at_call 207; refine (HRR.out _).mono ?_; rintro r w1 ⟨rfl, h9, h10⟩)
        go_roundg (muR ⟨rsX 27 (p2 27) y, e + (27 : Nat)⟩)
        case measure => exact HSt.out.2
        case rel => exact ⟨_, rfl, rfl, HSt.out.1, HSn.out, h9, (below_dn H4.out _).trans h10⟩
      · have h9b : (k : Int) < 9 := by omega
        have hd9 : decide ((9 : Int) ≤ k) = false := by simp; omega
        have hd9b : decide (9 ≤ k) = false := by simp; omega
        have hc := hg3 k (by omega)
        rw [← HK0.out, ← HTT.out] at hc
        clear hg3
        go_wp2_with fail
        go_quiet (fail)
        go_wp2_with fail
        go_quiet (fail)
        go_wp2_with (go_at_call 207; refine (HRR.out _).mono ?_; rintro r w1 ⟨rfl, h9, h10⟩)
        go_roundg (muR ⟨rsX T (p2 T) y, e + T⟩)
        case measure => exact HSt.out.2
        case rel => exact ⟨_, rfl, rfl, HSt.out.1, HSn.out, h9, (below_dn H4.out _).trans h10⟩
    · have hpb : decide (0 < y.dp) = false := by simpa using hp
      have hz := H2.out.done (by unfold stepR; rw [if_neg hp])
      subst hz
      go_wp2_with fail
      clear hdp hpb
      go_loopg [6] (muL ⟨y, e⟩) (fun g se wr => ∃ y : FB, g = muL y ∧ se = .int .i64 y.e ∧ FLI y ∧ Ends (stepL chD chL chC) y Z2 ∧ DecAt wr b y.x ∧ Below B w wr)
      case atStart => exact ⟨⟨y, e⟩, rfl, rfl, stepL_start _ H1.out (by show y.dp ≤ 0; omega), HE2.out, H3.out, H4.out⟩
      case round =>
        clear H3 H4 H1 H2 e0 e1 d0 d1 hp HZ1 HN1 HE1 HE2
        obtain ⟨⟨y, e⟩, rfl, rfl, h1, h2, h3, h4⟩ := hrel
        have H1 := Lib.hid h1
        have H2 := Lib.hid h2
        have H3 := Lib.hid h3
        have H4 := Lib.hid h4
        have e0 := h1.e0
        have e1 := h1.e1
        have d0 := h1.lo
        have d1 := h1.hi
        have hdp := h3.dp
        have hd0c := h3.dg 0 (by omega)
        dsimp only at e0 e1 d0 d1 hdp hd0c
        clear h1 h2 h3 h4
        by_cases hp : y.dp < 0 ∨ (y.dp = 0 ∧ y.d 0 < 53)
        · obtain ⟨k, hk⟩ : ∃ k : Nat, y.dp = -(k : Int) := ⟨(-y.dp).toNat, by omega⟩
          obtain ⟨t1, t2⟩ := tab_le (-y.dp) (by omega)
          have hmem : tabN (-y.dp) ∈ ks12 := by
            rcases tab_cases (-y.dp) (by omega) with ⟨_, e⟩ | ⟨_, e⟩ | ⟨_, e | e | e | e | e | e | e | e⟩ <;> (rw [e]; decide)
          have HSt := Lib.hid (stepL_keep sheet chD_1 chD_3 chD_lo chD_hi ⟨y, e⟩ ⟨lsN chD chL chC (tabN (-y.dp)) y, e - tabN (-y.dp)⟩ H1.out (by unfold stepL; rw [if_pos hp]))
          have HSn : Hid (Ends (stepL chD chL chC) ⟨lsN chD chL chC (tabN (-y.dp)) y, e - tabN (-y.dp)⟩ Z2) := Lib.hid (H2.out.next (by unfold stepL; rw [if_pos hp]))
          obtain ⟨g, o, hg1, hg2, hg3⟩ := ((HT.out.keep H4.out).pw)
          have hch := cheat_at hmem
          have HR := fun (m : Nat) => shift_left (tabN (-y.dp)) (chD (tabN (-y.dp))) (chS (tabN (-y.dp))) hch.1 hch.2.1 t1 (by omega) hch.2.2 y H1.out.x (by omega) (by omega) B b hB (wr.drewN m) (H3.out.drewN m) (((HT.out.keep H4.out).rows _ hmem).keep (below_dn (Below.refl B wr) m))
          have HRR : Hid (∀ m : Nat, Calls Tryz.prog 207 #[.pointer (some ⟨b, 0, none⟩), .int .i64 (tabN (-y.dp) : Nat)] (wr.drewN m) (Turned B b (wr.drewN m) (lsN chD chL chC (tabN (-y.dp)) y))) := Lib.hid HR
          clear HR hch
          have htab : 9 ≤ -y.dp → tabN (-y.dp) = 27 := fun h => if_pos h
          obtain ⟨T, hT⟩ : ∃ T, T = tabN (-y.dp) := ⟨_, rfl⟩
          rw [← hT] at t1 t2 HSt HSn HRR htab
          have HTT := Lib.hid hT
          have HTab := Lib.hid htab
          clear hT htab hmem
          have hkk : (k : Int) ≤ 340 := by omega
          have HPP := Lib.hid hp
          have hcase : 0 < k ∨ (k = 0 ∧ y.d 0 < 53) := by omega
          rw [hk] at hdp d0 d1
          have HK0 := Lib.hid hk
          clear hk hp
          have hk0 : (0 : Int) ≤ k := by omega
          have hnn : -(-(k : Int)) = k := by omega
          rcases hcase with hk1 | ⟨rfl, hd53⟩
          · have a1 : decide (-(k : Int) < 0) = true := by simp; omega
            have a2 : decide (0 < k) = true := by simp; omega
            have a3 : decide ((0 : Int) < k) = true := by simp; omega
            by_cases h9 : 9 ≤ k
            · have h9b : (9 : Int) ≤ k := by omega
              have hT27 : T = 27 := HTab.out (by rw [HK0.out]; omega)
              subst hT27
              have hd9 : decide ((9 : Int) ≤ k) = true := by simpa using h9b
              have hd9b : decide (9 ≤ k) = true := by simpa using h9
              clear hg3
              go_wp2_with fail
              go_quiet (fail)
              go_wp2_with (go_at_call 207; refine (HRR.out _).mono ?_; rintro r w1 ⟨rfl, h9, h10⟩)
              go_roundg (muL ⟨lsN chD chL chC 27 y, e - (27 : Nat)⟩)
              case measure => exact HSt.out.2
              case rel => exact ⟨_, rfl, rfl, HSt.out.1, HSn.out, h9, (below_dn H4.out _).trans h10⟩
            · have h9b : (k : Int) < 9 := by omega
              have hd9 : decide ((9 : Int) ≤ k) = false := by simp; omega
              have hd9b : decide (9 ≤ k) = false := by simp; omega
              have hc := hg3 k (by omega)
              rw [show (k : Int) = -y.dp from by have := HK0.out; omega, ← HTT.out] at hc
              clear hg3
              go_wp2_with fail
              go_quiet (fail)
              go_wp2_with fail
              go_quiet (fail)
              go_wp2_with (go_at_call 207; refine (HRR.out _).mono ?_; rintro r w1 ⟨rfl, h9, h10⟩)
              go_roundg (muL ⟨lsN chD chL chC T y, e - T⟩)
              case measure => exact HSt.out.2
              case rel => exact ⟨_, rfl, rfl, HSt.out.1, HSn.out, h9, (below_dn H4.out _).trans h10⟩
          · have hd53b : decide (y.d 0 < 53) = true := by simpa using hd53
            have hT1 : T = 1 := by
              rw [HTT.out, HK0.out]
              decide
            subst hT1
            have hc := hg3 0 (by omega)
            have hc' : wr.cell? ⟨g, o, none⟩ = some (.int .i64 1) := hc
            simp only [Int.natCast_zero, Int.neg_zero] at hdp
            clear hg3 hc
            go_wp2_with fail
            go_quiet (fail)
            go_wp2_with fail
            go_quiet (fail)
            go_wp2_with (go_at_call 207; refine (HRR.out _).mono ?_; rintro r w1 ⟨rfl, h9, h10⟩)
            go_roundg (muL ⟨lsN chD chL chC 1 y, e - (1 : Nat)⟩)
            case measure => exact HSt.out.2
            case rel => exact ⟨_, rfl, rfl, HSt.out.1, HSn.out, h9, (below_dn H4.out _).trans h10⟩
        · have hz := H2.out.done (by unfold stepL; rw [if_neg hp])
          subst hz
          have HP := Lib.hid hp
          clear hp
          go_upto_region 18 with fail
          go_cut [80] from 61 to 79 (fun bv wc => wr = wc ∧ bv = .bool false)
          case first =>
            have hp := HP.out
            have a1 : decide (y.dp < 0) = false := by simp; omega
            by_cases h0 : y.dp = 0
            · have h53 : decide (y.d 0 < 53) = false := by simp; omega
              have a2 : (y.dp == 0) = true := by simpa using h0
              clear hp h0
              go_wp2_with fail
              go_meet
              exact ⟨rfl, rfl⟩
            · have a2 : (y.dp == 0) = false := by simpa using h0
              clear hp h0
              go_wp2_with fail
              go_meet
              exact ⟨rfl, rfl⟩
          case rest =>
            obtain ⟨rfl, rfl⟩ := hcut
            have m0 : -95000 ≤ e := by omega
            clear hdp hd0c e1
            obtain ⟨y2, hy2⟩ : ∃ y2, y2 = fbY32 ⟨y, e⟩ := ⟨_, rfl⟩
            obtain ⟨e2, he2⟩ : ∃ e2, e2 = fbE32 ⟨y, e⟩ := ⟨_, rfl⟩
            rw [← hy2, ← he2] at HVO
            have hy2ok : DecI y2 ∧ y.dp - 30419 ≤ y2.dp ∧ y2.dp ≤ y.dp := by
              rw [hy2]
              unfold fbY32
              dsimp only
              split
              · obtain ⟨q1, q2, q3⟩ := shR_ok 1600 (-126 - (e - 1)).toNat y (by omega) (by omega) H1.out.x
                exact ⟨q1, by omega, q3⟩
              · exact ⟨H1.out.x, by omega, by omega⟩
            have he2ok : -126 ≤ e2 ∧ e2 ≤ 17000 := by
              rw [he2]
              unfold fbE32
              dsimp only
              split <;> omega
            have HY2 := Lib.hid hy2
            have HE2' := Lib.hid he2
            have HY2o := Lib.hid hy2ok.1
            obtain ⟨_, y2lo, y2hi⟩ := hy2ok
            obtain ⟨e2lo, e2hi⟩ := he2ok
            clear hy2 he2
            have hbi := (HF.out.keep H4.out hFB).bi
            go_upto_if 111 with fail
            go_cut [6, 10] from 111 to 125 (fun ev nv wc => ev = .int .i64 e2 ∧ DecAt wc b y2 ∧ Below B w wc)
            case first =>
              by_cases hd : e - 1 < -126
              · have hdb : decide (e - 1 < -126) = true := by simpa using hd
                obtain ⟨N, hN⟩ : ∃ N : Nat, -126 - (e - 1) = N := ⟨(-126 - (e - 1)).toNat, by omega⟩
                have hy : y2 = shR 1600 N y := by
                  rw [HY2.out]
                  unfold fbY32
                  dsimp only
                  rw [if_pos hd]
                  rw [hN]
                  rfl
                have he : e2 = -126 := by
                  rw [HE2'.out]
                  unfold fbE32
                  dsimp only
                  rw [if_pos hd]
                have hsum : e - 1 + (N : Int) = -126 := by omega
                have HR := Lib.hid (shift_right 1600 N (by omega) (by omega) (by omega) y H1.out.x (by omega) (by omega) B b hB wr H3.out)
                have HYy := Lib.hid hy
                have HEe := Lib.hid he
                have HS := Lib.hid hsum
                clear hy he hsum
                go_wp2_with (go_at_call 207; refine HR.out.mono ?_; rintro r w1 ⟨rfl, h9, h10⟩)
                go_meet
                refine ⟨?_, ?_, H4.out.trans h10⟩
                · rw [HEe.out, HS.out]
                · rw [HYy.out]
                  exact h9
              · have hdb : decide (e - 1 < -126) = false := by simpa using hd
                have hy : y2 = y := by
                  rw [HY2.out]
                  unfold fbY32
                  dsimp only
                  rw [if_neg hd]
                have he : e2 = e - 1 := by
                  rw [HE2'.out]
                  unfold fbE32
                  dsimp only
                  rw [if_neg hd]
                have HYy := Lib.hid hy
                have HEe := Lib.hid he
                clear hy he
                go_wp2_with fail
                go_meet
                refine ⟨?_, ?_, H4.out⟩
                · rw [HEe.out]
                · rw [HYy.out]
                  exact H3.out
            case rest =>
              obtain ⟨rfl, h3, h4⟩ := hcut
              clear H3 H4 H1 HY2 HE2'
              have H3 := Lib.hid h3
              have H4 := Lib.hid h4
              clear h3 h4 hbi
              have hmb := (HF.out.keep H4.out hFB).mb
              have heb := (HF.out.keep H4.out hFB).eb
              have hbi := (HF.out.keep H4.out hFB).bi
              have hng := H3.out.ng
              obtain ⟨y3, hy3⟩ : ∃ y3, y3 = lsN chD chL chC 24 y2 := ⟨_, rfl⟩
              rw [← hy3] at HVO
              have hc53 := cheat_at (show 24 ∈ ks12 by decide)
              obtain ⟨c1, c2, c3⟩ := lsX_ok hc53.1 HY2o.out
              have hn53 := newD_le y2.d (chC 24) y2.nd (chD 24) (chL 24)
              have hD53 := hc53.2.2
              have HY3 : Hid (DecI y3) := Lib.hid (by rw [hy3]; exact c1)
              have y3lo : -100000 ≤ y3.dp := by rw [hy3]; show -100000 ≤ (lsX _ _ _).dp; omega
              have y3hi : y3.dp ≤ 100000 := by rw [hy3]; show (lsX _ _ _).dp ≤ 100000; omega
              have HSh := fun (m : Nat) => shift_left 24 (chD 24) (chS 24) hc53.1 hc53.2.1 (by omega) (by omega) hc53.2.2 y2 HY2o.out (by omega) (by omega) B b hB (wc.drewN m) (H3.out.drewN m) (((HT.out.keep H4.out).rows _ (by decide)).keep (below_dn (Below.refl B wc) m))
              have HSH : Hid (∀ m : Nat, Calls Tryz.prog 207 #[.pointer (some ⟨b, 0, none⟩), .int .i64 24] (wc.drewN m) (Turned B b (wc.drewN m) y3)) := Lib.hid (by rw [hy3]; exact HSh)
              clear HSh c1 c2 c3 hn53 hD53 hc53
              obtain ⟨rin1, rin2⟩ := rint_in y3
              have HRI : Hid (∀ w', DecAt w' b y3 → Calls Tryz.prog 259 #[.pointer (some ⟨b, 0, none⟩)] w' fun e w'' => e = .returned (.int .u64 (rint y3)) ∧ w'' = w') := Lib.hid (fun w' h => rint_run y3 HY3.out (by omega) (by omega) b w' h)
              obtain ⟨M, hM⟩ : ∃ M, M = rint y3 := ⟨_, rfl⟩
              rw [← hM] at HVO HRI rin1 rin2
              obtain ⟨NG, hNG⟩ : ∃ b, b = y3.ng := ⟨_, rfl⟩
              rw [← hNG] at HVO
              have hN2 : y2.ng = NG := by rw [hNG, hy3]; rfl
              have HNG := Lib.hid hNG
              clear hM hNG hy3
              have HVO' := HVO.out
              unfold fbRes32 at HVO'
              clear HVO hng
              by_cases hov : 255 ≤ e2 + 127
              · have hovb : decide (255 ≤ e2 + 127) = true := by simpa using hov
                rw [if_pos hov] at HVO'
                injection HVO' with hv ho
                have HV := Lib.hid hv
                have HO := Lib.hid ho
                clear hv ho HSH HRI
                have hng : wc.cell? ⟨b, 802, none⟩ = some (.bool y2.ng) := H3.out.ng
                rw [hN2] at hng
                clear hN2
                go_wp2_with fail
                go_quiet (fail)
                go_wp2_with fail
                go_step3
                change K (Exit.goto 1) _ _
                refine scoped_jump HK _ rfl (fun K8 HK8 => ?_)
                go_wp2_with fail
                go_quiet (fail)
                go_wp2_with fail
                go_step3
                go_wp2_with fail
                go_quiet (fail)
                cases NG
                · go_wp2_with fail
                  refine scoped_ret HK8 ?_
                  refine bodyPost_ret (v := .tuple #[.int .u64 v, .bool o]) ?_ rfl ?_
                  · rw [HV.out, HO.out]
                    simp [results, Tryz.results247, go_sem, fbV32]
                  · rw [HQ.out]
                    exact ⟨rfl, (by first | exact H4.out | exact below_dn H4.out _ | exact below_dn (below_dn H4.out _) _ | exact below_dn (below_dn (below_dn H4.out _) _) _ | exact below_dn (below_dn (below_dn (below_dn H4.out _) _) _) _)⟩
                · go_wp2_with fail
                  go_quiet (fail)
                  go_wp2_with fail
                  refine scoped_ret HK8 ?_
                  refine bodyPost_ret (v := .tuple #[.int .u64 v, .bool o]) ?_ rfl ?_
                  · rw [HV.out, HO.out]
                    simp [results, Tryz.results247, go_sem, fbV32]
                  · rw [HQ.out]
                    exact ⟨rfl, (by first | exact H4.out | exact below_dn H4.out _ | exact below_dn (below_dn H4.out _) _ | exact below_dn (below_dn (below_dn H4.out _) _) _ | exact below_dn (below_dn (below_dn (below_dn H4.out _) _) _) _)⟩
              · have hovb : decide (255 ≤ e2 + 127) = false := by simpa using hov
                rw [if_neg hov] at HVO'
                clear hN2
                by_cases hm : M = 16777216
                · have hmb2 : (M == 16777216) = true := by simpa using hm
                  rw [if_pos hm] at HVO'
                  clear hm
                  by_cases ho2 : 255 ≤ e2 + 1 + 127
                  · have ho2b : decide (255 ≤ e2 + 1 + 127) = true := by simpa using ho2
                    rw [if_pos ho2] at HVO'
                    injection HVO' with hv ho
                    have HV := Lib.hid hv
                    have HO := Lib.hid ho
                    clear hv ho
                    go_wp2_with fail
                    go_quiet (fail)
                    go_wp2_with (first
                      | (go_at_call 207; refine (HSH.out _).mono ?_; rintro r w1 ⟨rfl, h9, h10⟩; have H9 := Lib.hid h9; have HB1 := Lib.hid ((below_dn H4.out _).trans h10); clear h9 h10; have hmb1 := (HF.out.keep HB1.out hFB).mb; have heb1 := (HF.out.keep HB1.out hFB).eb; have hbi1 := (HF.out.keep HB1.out hFB).bi; have hng1 := H9.out.ng; rw [← HNG.out] at hng1)
                      | (go_at_call 259; refine (HRI.out _ H9.out).mono ?_; rintro r w2 ⟨rfl, rfl⟩))
                    go_quiet (fail)
                    go_wp2_with fail
                    go_step3
                    change K (Exit.goto 1) _ _
                    refine scoped_jump HK _ rfl (fun K8 HK8 => ?_)
                    go_wp2_with fail
                    go_quiet (fail)
                    go_wp2_with fail
                    go_step3
                    go_wp2_with fail
                    go_quiet (fail)
                    cases NG
                    · go_wp2_with fail
                      refine scoped_ret HK8 ?_
                      refine bodyPost_ret (v := .tuple #[.int .u64 v, .bool o]) ?_ rfl ?_
                      · rw [HV.out, HO.out]
                        simp [results, Tryz.results247, go_sem, fbV32]
                      · rw [HQ.out]
                        exact ⟨rfl, (by first | exact HB1.out | exact below_dn HB1.out _ | exact below_dn (below_dn HB1.out _) _ | exact below_dn (below_dn (below_dn HB1.out _) _) _ | exact below_dn (below_dn (below_dn (below_dn HB1.out _) _) _) _)⟩
                    · go_wp2_with fail
                      go_quiet (fail)
                      go_wp2_with fail
                      refine scoped_ret HK8 ?_
                      refine bodyPost_ret (v := .tuple #[.int .u64 v, .bool o]) ?_ rfl ?_
                      · rw [HV.out, HO.out]
                        simp [results, Tryz.results247, go_sem, fbV32]
                      · rw [HQ.out]
                        exact ⟨rfl, (by first | exact HB1.out | exact below_dn HB1.out _ | exact below_dn (below_dn HB1.out _) _ | exact below_dn (below_dn (below_dn HB1.out _) _) _ | exact below_dn (below_dn (below_dn (below_dn HB1.out _) _) _) _)⟩
                  · have ho2b : decide (255 ≤ e2 + 1 + 127) = false := by simpa using ho2
                    rw [if_neg ho2] at HVO'
                    cases hC : (bits .and .u64 (M / 2) 8388608 == 0)
                    · rw [hC, if_neg (by decide)] at HVO'
                      injection HVO' with hv ho
                      have HV := Lib.hid hv
                      have HO := Lib.hid ho
                      clear hv ho
                      go_wp2_with fail
                      go_quiet (fail)
                      go_wp2_with (first
                        | (go_at_call 207; refine (HSH.out _).mono ?_; rintro r w1 ⟨rfl, h9, h10⟩; have H9 := Lib.hid h9; have HB1 := Lib.hid ((below_dn H4.out _).trans h10); clear h9 h10; have hmb1 := (HF.out.keep HB1.out hFB).mb; have heb1 := (HF.out.keep HB1.out hFB).eb; have hbi1 := (HF.out.keep HB1.out hFB).bi; have hng1 := H9.out.ng; rw [← HNG.out] at hng1)
                        | (go_at_call 259; refine (HRI.out _ H9.out).mono ?_; rintro r w2 ⟨rfl, rfl⟩))
                      go_quiet (fail)
                      go_wp2_with fail
                      go_step3
                      change K (Exit.goto 0) _ _
                      refine scoped_jump HK _ rfl (fun K8 HK8 => ?_)
                      go_wp2_with fail
                      go_quiet (fail)
                      cases NG
                      · go_wp2_with fail
                        refine scoped_ret HK8 ?_
                        refine bodyPost_ret (v := .tuple #[.int .u64 v, .bool o]) ?_ rfl ?_
                        · rw [HV.out, HO.out]
                          simp [results, Tryz.results247, go_sem, fbV32]
                        · rw [HQ.out]
                          exact ⟨rfl, (by first | exact HB1.out | exact below_dn HB1.out _ | exact below_dn (below_dn HB1.out _) _ | exact below_dn (below_dn (below_dn HB1.out _) _) _ | exact below_dn (below_dn (below_dn (below_dn HB1.out _) _) _) _)⟩
                      · go_wp2_with fail
                        go_quiet (fail)
                        go_wp2_with fail
                        refine scoped_ret HK8 ?_
                        refine bodyPost_ret (v := .tuple #[.int .u64 v, .bool o]) ?_ rfl ?_
                        · rw [HV.out, HO.out]
                          simp [results, Tryz.results247, go_sem, fbV32]
                        · rw [HQ.out]
                          exact ⟨rfl, (by first | exact HB1.out | exact below_dn HB1.out _ | exact below_dn (below_dn HB1.out _) _ | exact below_dn (below_dn (below_dn HB1.out _) _) _ | exact below_dn (below_dn (below_dn (below_dn HB1.out _) _) _) _)⟩
                    · rw [hC, if_pos rfl] at HVO'
                      injection HVO' with hv ho
                      have HV := Lib.hid hv
                      have HO := Lib.hid ho
                      clear hv ho
                      go_wp2_with fail
                      go_quiet (fail)
                      go_wp2_with (first
                        | (go_at_call 207; refine (HSH.out _).mono ?_; rintro r w1 ⟨rfl, h9, h10⟩; have H9 := Lib.hid h9; have HB1 := Lib.hid ((below_dn H4.out _).trans h10); clear h9 h10; have hmb1 := (HF.out.keep HB1.out hFB).mb; have heb1 := (HF.out.keep HB1.out hFB).eb; have hbi1 := (HF.out.keep HB1.out hFB).bi; have hng1 := H9.out.ng; rw [← HNG.out] at hng1)
                        | (go_at_call 259; refine (HRI.out _ H9.out).mono ?_; rintro r w2 ⟨rfl, rfl⟩))
                      go_quiet (fail)
                      go_wp2_with fail
                      go_step3
                      change K (Exit.goto 0) _ _
                      refine scoped_jump HK _ rfl (fun K8 HK8 => ?_)
                      go_wp2_with fail
                      go_quiet (fail)
                      cases NG
                      · go_wp2_with fail
                        refine scoped_ret HK8 ?_
                        refine bodyPost_ret (v := .tuple #[.int .u64 v, .bool o]) ?_ rfl ?_
                        · rw [HV.out, HO.out]
                          simp [results, Tryz.results247, go_sem, fbV32]
                        · rw [HQ.out]
                          exact ⟨rfl, (by first | exact HB1.out | exact below_dn HB1.out _ | exact below_dn (below_dn HB1.out _) _ | exact below_dn (below_dn (below_dn HB1.out _) _) _ | exact below_dn (below_dn (below_dn (below_dn HB1.out _) _) _) _)⟩
                      · go_wp2_with fail
                        go_quiet (fail)
                        go_wp2_with fail
                        refine scoped_ret HK8 ?_
                        refine bodyPost_ret (v := .tuple #[.int .u64 v, .bool o]) ?_ rfl ?_
                        · rw [HV.out, HO.out]
                          simp [results, Tryz.results247, go_sem, fbV32]
                        · rw [HQ.out]
                          exact ⟨rfl, (by first | exact HB1.out | exact below_dn HB1.out _ | exact below_dn (below_dn HB1.out _) _ | exact below_dn (below_dn (below_dn HB1.out _) _) _ | exact below_dn (below_dn (below_dn (below_dn HB1.out _) _) _) _)⟩
                · have hmb2 : (M == 16777216) = false := by simpa using hm
                  rw [if_neg hm] at HVO'
                  clear hm
                  cases hC : (bits .and .u64 M 8388608 == 0)
                  · rw [hC, if_neg (by decide)] at HVO'
                    injection HVO' with hv ho
                    have HV := Lib.hid hv
                    have HO := Lib.hid ho
                    clear hv ho
                    go_wp2_with fail
                    go_quiet (fail)
                    go_wp2_with (first
                      | (go_at_call 207; refine (HSH.out _).mono ?_; rintro r w1 ⟨rfl, h9, h10⟩; have H9 := Lib.hid h9; have HB1 := Lib.hid ((below_dn H4.out _).trans h10); clear h9 h10; have hmb1 := (HF.out.keep HB1.out hFB).mb; have heb1 := (HF.out.keep HB1.out hFB).eb; have hbi1 := (HF.out.keep HB1.out hFB).bi; have hng1 := H9.out.ng; rw [← HNG.out] at hng1)
                      | (go_at_call 259; refine (HRI.out _ H9.out).mono ?_; rintro r w2 ⟨rfl, rfl⟩))
                    go_step3
                    change K (Exit.goto 0) _ _
                    refine scoped_jump HK _ rfl (fun K8 HK8 => ?_)
                    go_wp2_with fail
                    go_quiet (fail)
                    cases NG
                    · go_wp2_with fail
                      refine scoped_ret HK8 ?_
                      refine bodyPost_ret (v := .tuple #[.int .u64 v, .bool o]) ?_ rfl ?_
                      · rw [HV.out, HO.out]
                        simp [results, Tryz.results247, go_sem, fbV32]
                      · rw [HQ.out]
                        exact ⟨rfl, (by first | exact HB1.out | exact below_dn HB1.out _ | exact below_dn (below_dn HB1.out _) _ | exact below_dn (below_dn (below_dn HB1.out _) _) _ | exact below_dn (below_dn (below_dn (below_dn HB1.out _) _) _) _)⟩
                    · go_wp2_with fail
                      go_quiet (fail)
                      go_wp2_with fail
                      refine scoped_ret HK8 ?_
                      refine bodyPost_ret (v := .tuple #[.int .u64 v, .bool o]) ?_ rfl ?_
                      · rw [HV.out, HO.out]
                        simp [results, Tryz.results247, go_sem, fbV32]
                      · rw [HQ.out]
                        exact ⟨rfl, (by first | exact HB1.out | exact below_dn HB1.out _ | exact below_dn (below_dn HB1.out _) _ | exact below_dn (below_dn (below_dn HB1.out _) _) _ | exact below_dn (below_dn (below_dn (below_dn HB1.out _) _) _) _)⟩
                  · rw [hC, if_pos rfl] at HVO'
                    injection HVO' with hv ho
                    have HV := Lib.hid hv
                    have HO := Lib.hid ho
                    clear hv ho
                    go_wp2_with fail
                    go_quiet (fail)
                    go_wp2_with (first
                      | (go_at_call 207; refine (HSH.out _).mono ?_; rintro r w1 ⟨rfl, h9, h10⟩; have H9 := Lib.hid h9; have HB1 := Lib.hid ((below_dn H4.out _).trans h10); clear h9 h10; have hmb1 := (HF.out.keep HB1.out hFB).mb; have heb1 := (HF.out.keep HB1.out hFB).eb; have hbi1 := (HF.out.keep HB1.out hFB).bi; have hng1 := H9.out.ng; rw [← HNG.out] at hng1)
                      | (go_at_call 259; refine (HRI.out _ H9.out).mono ?_; rintro r w2 ⟨rfl, rfl⟩))
                    go_step3
                    change K (Exit.goto 0) _ _
                    refine scoped_jump HK _ rfl (fun K8 HK8 => ?_)
                    go_wp2_with fail
                    go_quiet (fail)
                    cases NG
                    · go_wp2_with fail
                      refine scoped_ret HK8 ?_
                      refine bodyPost_ret (v := .tuple #[.int .u64 v, .bool o]) ?_ rfl ?_
                      · rw [HV.out, HO.out]
                        simp [results, Tryz.results247, go_sem, fbV32]
                      · rw [HQ.out]
                        exact ⟨rfl, (by first | exact HB1.out | exact below_dn HB1.out _ | exact below_dn (below_dn HB1.out _) _ | exact below_dn (below_dn (below_dn HB1.out _) _) _ | exact below_dn (below_dn (below_dn (below_dn HB1.out _) _) _) _)⟩
                    · go_wp2_with fail
                      go_quiet (fail)
                      go_wp2_with fail
                      refine scoped_ret HK8 ?_
                      refine bodyPost_ret (v := .tuple #[.int .u64 v, .bool o]) ?_ rfl ?_
                      · rw [HV.out, HO.out]
                        simp [results, Tryz.results247, go_sem, fbV32]
                      · rw [HQ.out]
                        exact ⟨rfl, (by first | exact HB1.out | exact below_dn HB1.out _ | exact below_dn (below_dn HB1.out _) _ | exact below_dn (below_dn (below_dn HB1.out _) _) _ | exact below_dn (below_dn (below_dn (below_dn HB1.out _) _) _) _)⟩
end Go.Proofs.YtnggkkdcddpjlaaGreatDoor
namespace Go.Proofs.YtnggkkdcddpjlaaGreatDoor
open Go.RowKit
set_option maxRecDepth 100000
set_option linter.unusedVariables false
set_option linter.unusedSimpArgs false
set_option maxHeartbeats 1000000 in
theorem fb_zero32 (x : Dec) (hx : x.nd = 0) (B b : Nat) (w : World) (hF : FltAt w 5 23 8 (-127)) (h : DecAt w b x) : Calls Tryz.prog 247 #[.pointer (some ⟨b, 0, none⟩), .pointer (some ⟨5, 0, none⟩)] w (FbPost B w (fbV32 x.ng 0 0) false) := by
  obtain ⟨NG, hNG⟩ : ∃ b, b = x.ng := ⟨_, rfl⟩
  have hng := h.ng
  rw [← hNG] at hng ⊢
  obtain ⟨v, hv⟩ : ∃ v, v = fbV32 NG 0 0 := ⟨_, rfl⟩
  obtain ⟨o, ho⟩ : ∃ o, o = false := ⟨_, rfl⟩
  rw [← hv, ← ho]
  have HV := Lib.hid hv
  have HO := Lib.hid ho
  obtain ⟨Q, hQ⟩ : ∃ Q, Q = FbPost B w v o := ⟨_, rfl⟩
  rw [← hQ]
  have HQ := Lib.hid hQ
  have hnd := h.nd
  have hdp := h.dp
  have hmb := hF.mb
  have heb := hF.eb
  have hbi := hF.bi
  rw [hx] at hnd
  clear hQ h hF hNG hv ho
  go_enter Tryz.func247, Tryz.ntmps247
  go_wp2_with fail
  refine wp_scope_name 2 (fun K HK => ?_)
  go_wp2_with fail
  go_step3
  change K (Exit.goto 0) _ _
  refine scoped_jump HK _ rfl (fun K8 HK8 => ?_)
  go_wp2_with fail
  go_quiet (fail)
  cases NG
  · go_wp2_with fail
    refine scoped_ret HK8 ?_
    refine bodyPost_ret (v := .tuple #[.int .u64 v, .bool o]) ?_ rfl ?_
    · rw [HV.out, HO.out]
      simp [results, Tryz.results247, go_sem, fbV32]
    · rw [HQ.out]
      exact ⟨rfl, (by first | exact Below.refl _ _ | exact below_dn (Below.refl _ _) _ | exact below_dn (below_dn (Below.refl _ _) _) _ | exact below_dn (below_dn (below_dn (Below.refl _ _) _) _) _)⟩
  · go_wp2_with fail
    go_quiet (fail)
    go_wp2_with fail
    refine scoped_ret HK8 ?_
    refine bodyPost_ret (v := .tuple #[.int .u64 v, .bool o]) ?_ rfl ?_
    · rw [HV.out, HO.out]
      simp [results, Tryz.results247, go_sem, fbV32]
    · rw [HQ.out]
      exact ⟨rfl, (by first | exact Below.refl _ _ | exact below_dn (Below.refl _ _) _ | exact below_dn (below_dn (Below.refl _ _) _) _ | exact below_dn (below_dn (below_dn (Below.refl _ _) _) _) _)⟩
set_option maxHeartbeats 1000000 in
theorem fb_under32 (x : Dec) (hx : 0 < x.nd) (hp : x.dp < -330) (B b : Nat) (w : World) (hF : FltAt w 5 23 8 (-127)) (h : DecAt w b x) : Calls Tryz.prog 247 #[.pointer (some ⟨b, 0, none⟩), .pointer (some ⟨5, 0, none⟩)] w (FbPost B w (fbV32 x.ng 0 0) false) := by
  obtain ⟨NG, hNG⟩ : ∃ b, b = x.ng := ⟨_, rfl⟩
  have hng := h.ng
  rw [← hNG] at hng ⊢
  obtain ⟨v, hv⟩ : ∃ v, v = fbV32 NG 0 0 := ⟨_, rfl⟩
  obtain ⟨o, ho⟩ : ∃ o, o = false := ⟨_, rfl⟩
  rw [← hv, ← ho]
  have HV := Lib.hid hv
  have HO := Lib.hid ho
  obtain ⟨Q, hQ⟩ : ∃ Q, Q = FbPost B w v o := ⟨_, rfl⟩
  rw [← hQ]
  have HQ := Lib.hid hQ
  have hnd := h.nd
  have hdp := h.dp
  have hmb := hF.mb
  have heb := hF.eb
  have hbi := hF.bi
  have hne : ((x.nd : Int) == 0) = false := by simp; omega
  have h310 : ¬ (310 : Int) < x.dp := by omega
  clear hQ h hF hNG hv ho
  go_enter Tryz.func247, Tryz.ntmps247
  go_wp2_with fail
  refine wp_scope_name 2 (fun K HK => ?_)
  go_wp2_with fail
  go_step3
  change K (Exit.goto 0) _ _
  refine scoped_jump HK _ rfl (fun K8 HK8 => ?_)
  go_wp2_with fail
  go_quiet (fail)
  cases NG
  · go_wp2_with fail
    refine scoped_ret HK8 ?_
    refine bodyPost_ret (v := .tuple #[.int .u64 v, .bool o]) ?_ rfl ?_
    · rw [HV.out, HO.out]
      simp [results, Tryz.results247, go_sem, fbV32]
    · rw [HQ.out]
      exact ⟨rfl, (by first | exact Below.refl _ _ | exact below_dn (Below.refl _ _) _ | exact below_dn (below_dn (Below.refl _ _) _) _ | exact below_dn (below_dn (below_dn (Below.refl _ _) _) _) _)⟩
  · go_wp2_with fail
    go_quiet (fail)
    go_wp2_with fail
    refine scoped_ret HK8 ?_
    refine bodyPost_ret (v := .tuple #[.int .u64 v, .bool o]) ?_ rfl ?_
    · rw [HV.out, HO.out]
      simp [results, Tryz.results247, go_sem, fbV32]
    · rw [HQ.out]
      exact ⟨rfl, (by first | exact Below.refl _ _ | exact below_dn (Below.refl _ _) _ | exact below_dn (below_dn (Below.refl _ _) _) _ | exact below_dn (below_dn (below_dn (Below.refl _ _) _) _) _)⟩
set_option maxHeartbeats 1000000 in
theorem fb_over32 (x : Dec) (hx : 0 < x.nd) (hp : 310 < x.dp) (B b : Nat) (w : World) (hF : FltAt w 5 23 8 (-127)) (h : DecAt w b x) : Calls Tryz.prog 247 #[.pointer (some ⟨b, 0, none⟩), .pointer (some ⟨5, 0, none⟩)] w (FbPost B w (fbV32 x.ng 0 255) true) := by
  obtain ⟨NG, hNG⟩ : ∃ b, b = x.ng := ⟨_, rfl⟩
  have hng := h.ng
  rw [← hNG] at hng ⊢
  obtain ⟨v, hv⟩ : ∃ v, v = fbV32 NG 0 255 := ⟨_, rfl⟩
  obtain ⟨o, ho⟩ : ∃ o, o = true := ⟨_, rfl⟩
  rw [← hv, ← ho]
  have HV := Lib.hid hv
  have HO := Lib.hid ho
  obtain ⟨Q, hQ⟩ : ∃ Q, Q = FbPost B w v o := ⟨_, rfl⟩
  rw [← hQ]
  have HQ := Lib.hid hQ
  have hnd := h.nd
  have hdp := h.dp
  have hmb := hF.mb
  have heb := hF.eb
  have hbi := hF.bi
  have hne : ((x.nd : Int) == 0) = false := by simp; omega
  clear hQ h hF hNG hv ho
  go_enter Tryz.func247, Tryz.ntmps247
  go_wp2_with fail
  refine wp_scope_name 2 (fun K HK => ?_)
  go_wp2_with fail
  go_step3
  change K (Exit.goto 1) _ _
  refine scoped_jump HK _ rfl (fun K8 HK8 => ?_)
  go_wp2_with fail
  go_quiet (fail)
  go_wp2_with fail
  go_step3
  go_wp2_with fail
  go_quiet (fail)
  cases NG
  · go_wp2_with fail
    refine scoped_ret HK8 ?_
    refine bodyPost_ret (v := .tuple #[.int .u64 v, .bool o]) ?_ rfl ?_
    · rw [HV.out, HO.out]
      simp [results, Tryz.results247, go_sem, fbV32]
    · rw [HQ.out]
      exact ⟨rfl, (by first | exact Below.refl _ _ | exact below_dn (Below.refl _ _) _ | exact below_dn (below_dn (Below.refl _ _) _) _ | exact below_dn (below_dn (below_dn (Below.refl _ _) _) _) _)⟩
  · go_wp2_with fail
    go_quiet (fail)
    go_wp2_with fail
    refine scoped_ret HK8 ?_
    refine bodyPost_ret (v := .tuple #[.int .u64 v, .bool o]) ?_ rfl ?_
    · rw [HV.out, HO.out]
      simp [results, Tryz.results247, go_sem, fbV32]
    · rw [HQ.out]
      exact ⟨rfl, (by first | exact Below.refl _ _ | exact below_dn (Below.refl _ _) _ | exact below_dn (below_dn (Below.refl _ _) _) _ | exact below_dn (below_dn (below_dn (Below.refl _ _) _) _) _)⟩
theorem fbV_in32 (ng : Bool) (m d : Int) : 0 ≤ fbV32 ng m d ∧ fbV32 ng m d < 18446744073709551616 := by
  unfold fbV32
  split <;> exact bits_in _ _ _
theorem fbRes_in32 (ng : Bool) (m d : Int) : 0 ≤ (fbRes32 ng m d).1 ∧ (fbRes32 ng m d).1 < 18446744073709551616 := by
  unfold fbRes32
  (repeat' split) <;> exact fbV_in32 _ _ _
/-- floatBits at 32 bits: total; its bits hang on the decimal alone. -/
theorem floatBits_any32 (x : Dec) (hx : DecJ x) : ∃ (v : Int) (o : Bool), 0 ≤ v ∧ v < 18446744073709551616 ∧ ∀ (B b : Nat) (w : World), B ≤ b → 5 < B → FltAt w 5 23 8 (-127) → Flow B w → DecAt w b x → Calls Tryz.prog 247 #[.pointer (some ⟨b, 0, none⟩), .pointer (some ⟨5, 0, none⟩)] w (FbPost B w v o) := by
  rcases hx with hx | hx
  · exact ⟨_, _, (fbV_in32 _ _ _).1, (fbV_in32 _ _ _).2, fun B b w hB h6 hF hT h => fb_zero32 x hx B b w hF h⟩
  · by_cases h1 : 310 < x.dp
    · exact ⟨_, _, (fbV_in32 _ _ _).1, (fbV_in32 _ _ _).2, fun B b w hB h6 hF hT h => fb_over32 x hx.nd0 h1 B b w hF h⟩
    · by_cases h2 : x.dp < -330
      · exact ⟨_, _, (fbV_in32 _ _ _).1, (fbV_in32 _ _ _).2, fun B b w hB h6 hF hT h => fb_under32 x hx.nd0 h2 B b w hF h⟩
      · obtain ⟨Z1, hE1, hI1, hN1⟩ := ends_some (step := stepR) FRI muR stepR_keep _ ⟨x, 0⟩ (Nat.le_refl _) (stepR_start x hx (by omega) (by omega))
        have hp1 : Z1.x.dp ≤ 0 := by
          unfold stepR at hN1
          split at hN1
          · cases hN1
          · omega
        obtain ⟨Z2, hE2, hI2, hN2⟩ := ends_some (step := stepL chD chL chC) FLI muL (stepL_keep sheet chD_1 chD_3 chD_lo chD_hi) _ Z1 (Nat.le_refl _) (stepL_start Z1 hI1 hp1)
        exact ⟨_, _, (fbRes_in32 _ _ _).1, (fbRes_in32 _ _ _).2, fun B b w hB h6 hF hT h => fb_main32 Z1 Z2 hI1 hN1 hI2 hN2 x hx (by omega) (by omega) hE1 hE2 _ _ rfl B b w hB h6 hF hT h⟩
end Go.Proofs.YtnggkkdcddpjlaaGreatDoor
