/- strconv's decimal: rightShift. -/
import Derived.Test.YtnggkkdcddpjlaaGreatDoorZ03
namespace Go.Proofs.YtnggkkdcddpjlaaGreatDoor
open Go.RowKit
set_option maxRecDepth 100000
set_option linter.unusedVariables false
set_option linter.unusedSimpArgs false
theorem bits_and_u64 (a c : Nat) (ha : a < 18446744073709551616) (hc : c < 18446744073709551616) : bits BinOp.and IntKind.u64 (a : Int) (c : Int) = ((a &&& c : Nat) : Int) := by
  have h : bits BinOp.and IntKind.u64 (a : Int) (c : Int) = IntKind.u64.wrap ((BitVec.ofInt 64 (a : Int) &&& BitVec.ofInt 64 (c : Int)).toNat : Nat) := rfl
  rw [h, IntKind.wrap_u64, BitVec.toNat_and, BitVec.toNat_ofInt, BitVec.toNat_ofInt]
  have h1 : (((a : Int) % ((2 ^ 64 : Nat) : Int)).toNat) = a := by omega
  have h2 : (((c : Int) % ((2 ^ 64 : Nat) : Int)).toNat) = c := by omega
  rw [h1, h2]
  have h3 : a &&& c ≤ a := Nat.and_le_left
  omega
theorem and_mask (k : Nat) (hk : k ≤ 60) (K n : Int) (hK : K = p2 k) (h0 : 0 ≤ n) (h1 : n < 18446744073709551616) : bits BinOp.and IntKind.u64 n (K - 1) = n % K := by
  obtain ⟨m, rfl⟩ : ∃ m : Nat, n = m := ⟨n.toNat, by omega⟩
  have hp : K = ((2 ^ k : Nat) : Int) := by
    rw [hK, p2_eq]
    push_cast
    rfl
  have hb : K ≤ 1152921504606846976 := by rw [hK, ← p2_60]; exact p2_le hk
  have h2 : 0 < 2 ^ k := Nat.two_pow_pos k
  have e : K - 1 = ((2 ^ k - 1 : Nat) : Int) := by omega
  rw [e, bits_and_u64 _ _ (by omega) (by omega), Nat.and_two_pow_sub_one_eq_mod, hp]
  rfl
set_option maxHeartbeats 2000000 in
theorem rs_run (k : Nat) (hk1 : 1 ≤ k) (hk60 : k ≤ 60) (x : Dec) (hx : DecI x) (hp0 : -1000000 ≤ x.dp) (hp1 : x.dp ≤ 1000000) (B b : Nat) (hB : B ≤ b) (w : World) (h : DecAt w b x) :
    Calls Tryz.prog 233 #[.pointer (some ⟨b, 0, none⟩), .int .u64 k] w (Turned B b w (rsX k (p2 k) x)) := by
  obtain ⟨hK1, hK2⟩ := p2_small hk1 hk60
  have hKe := (p2_eq k).symm
  have HKp : Hid (p2 k = p2 k) := Lib.hid rfl
  obtain ⟨K, hK⟩ : ∃ K, K = p2 k := ⟨_, rfl⟩
  have hK60 : K ≤ 1152921504606846976 := by rw [hK, ← p2_60]; exact p2_le hk60
  rw [← hK] at hK1 hK2 hKe ⊢
  have HK := Lib.hid hK
  clear hK HKp
  obtain ⟨z1, z2, z3, z4⟩ := rsP_ok hK1 hK2 hx
  have hg := val_digs hx.dig
  obtain ⟨Q, hQ⟩ : ∃ Q, Q = Turned B b w (rsX k K x) := ⟨_, rfl⟩
  rw [← hQ]
  have HQ := Lib.hid hQ
  have HZ : Hid (rsA K (val x.d x.nd) 20 0 0 = rsP K x) := Lib.hid rfl
  have HX := Lib.hid hx
  have hnd0 := hx.nd0
  have hnd1 := hx.nd1
  have H := Lib.hid h
  have hnd := h.nd
  have hdp := h.dp
  have hf0 := h.fr 800
  have hf1 := h.fr 801
  have HG := Lib.hid hg
  generalize hzz : rsP K x = Z at z1 z2 z3 z4 HZ
  obtain ⟨ZR, ZN⟩ := Z
  have HZZ := Lib.hid hzz
  dsimp only at z1 z2 z3 z4
  clear hQ hx h hg hzz
  have hd0 := HX.out.hd
  go_enter Tryz.func233, Tryz.ntmps233
  go_upto_block 0 with fail
  go_cut [4, 6] from 12 to 48 (fun r n wr => w = wr ∧ r = .int .i64 ZR ∧ n = .int .u64 ZN)
  case first =>
    go_wp2_with fail
    go_loopg [4, 6] 20 (fun f r n wr => ∃ (rr : Nat) (nn : Int), w = wr ∧ r = .int .i64 rr ∧ n = .int .u64 nn ∧ rr ≤ x.nd ∧ rr + f ≤ 20 ∧ 0 ≤ nn ∧ nn < 10 * K ∧ (rr = 0 → nn = 0) ∧ (0 < rr → 1 ≤ nn) ∧ rsA K (val x.d x.nd) f rr nn = (ZR, ZN))
    case atStart => exact ⟨0, 0, rfl, rfl, rfl, Nat.zero_le _, by omega, by omega, by omega, fun _ => rfl, fun h => absurd h (by omega), HZ.out⟩
    case round =>
      obtain ⟨r, n, rfl, rfl, rfl, h1, h2, h3, h4, h5, h6, h7⟩ := hrel
      have H5 := Lib.hid h5
      have H6 := Lib.hid h6
      have H7 := Lib.hid h7
      clear h5 h6 h7
      by_cases hlt : n < K
      · have hz : (n / K == 0) = true := by rw [Int.ediv_eq_zero_of_lt h3 hlt]; rfl
        have hf : 0 < gk := by
          rcases Nat.eq_zero_or_pos gk with e | e
          · have h7 := H7.out
            rw [e] at h7
            have h8 : (r, n) = (ZR, ZN) := h7
            injection h8 with _ h9
            omega
          · exact e
        obtain ⟨f, rfl⟩ : ∃ f, gk = f + 1 := ⟨gk - 1, by omega⟩
        have H8 : Hid (rsA K (val x.d x.nd) f (r + 1) (n * 10 + val x.d x.nd r) = (ZR, ZN)) := Lib.hid (by
          have h7 := H7.out
          rw [rsA, if_pos hlt] at h7
          exact h7)
        by_cases hr : r < x.nd
        · have hc := H.out.dg r (by omega)
          have hD := HX.out.dig r hr
          have hD1 := hD.1
          have hD2 := hD.2
          have hr0 : (0 : Int) ≤ r := by omega
          have hr1 : (r : Int) < 800 := by omega
          have hr2 : (r : Int) < x.nd := by omega
          clear hD
          go_wp2_with fail
          go_roundg f
          case measure => omega
          case rel =>
            refine ⟨r + 1, n * 10 + x.d r - 48, rfl, by simp, rfl, by omega, by omega, by omega, by omega, fun h => by omega, fun _ => ?_, ?_⟩
            · rcases Nat.eq_zero_or_pos r with e | e
              · subst e
                omega
              · have := H6.out e
                omega
            · rw [show n * 10 + x.d r - 48 = n * 10 + val x.d x.nd r from by rw [val_in hr]; omega]
              exact H8.out
        · have hn1 := H6.out (by omega)
          have hne : (n == 0) = false := by simp; omega
          have hr2 : (x.nd : Int) ≤ r := by omega
          clear H8
          go_wp2_with fail
          go_loopg [4, 6] (f + 1) (fun f r n wr => ∃ (rr : Nat) (nn : Int), w = wr ∧ r = .int .i64 rr ∧ n = .int .u64 nn ∧ x.nd ≤ rr ∧ rr + f ≤ 20 ∧ 1 ≤ nn ∧ nn < 10 * K ∧ rsA K (val x.d x.nd) f rr nn = (ZR, ZN))
          case atStart => exact ⟨r, n, rfl, rfl, rfl, by omega, h2, hn1, by omega, H7.out⟩
          case round =>
            obtain ⟨r', n', rfl, rfl, rfl, g1, g2, g3, g4, g7⟩ := hrel
            have G7 := Lib.hid g7
            clear g7 hz hne hlt hn1 H7 H6 H5
            by_cases hlt : n' < K
            · have hz : (n' / K == 0) = true := by rw [Int.ediv_eq_zero_of_lt (by omega) hlt]; rfl
              have hf : 0 < gk := by
                rcases Nat.eq_zero_or_pos gk with e | e
                · have h7 := G7.out
                  rw [e] at h7
                  have h8 : (r', n') = (ZR, ZN) := h7
                  injection h8 with _ h9
                  omega
                · exact e
              obtain ⟨f', rfl⟩ : ∃ f, gk = f + 1 := ⟨gk - 1, by omega⟩
              have H8 : Hid (rsA K (val x.d x.nd) f' (r' + 1) (n' * 10) = (ZR, ZN)) := Lib.hid (by
                have h7 := G7.out
                rw [rsA, if_pos hlt, val_out g1, Int.add_zero] at h7
                exact h7)
              go_wp2_with fail
              go_roundg f'
              case measure => omega
              case rel => exact ⟨r' + 1, n' * 10, rfl, by simp, rfl, by omega, by omega, by omega, by omega, H8.out⟩
            · have hz : (n' / K == 0) = false := by
                have : 1 ≤ n' / K := (Int.le_ediv_iff_mul_le (by omega)).2 (by omega)
                simp
                omega
              have H8 : Hid ((r', n') = (ZR, ZN)) := Lib.hid (by
                have h7 := G7.out
                cases gk with
                | zero => exact h7
                | succ f => rw [rsA, if_neg hlt] at h7; exact h7)
              go_wp2_with fail
              go_meet
              have h9 := H8.out
              injection h9 with h10 h11
              subst h10 h11
              exact ⟨rfl, rfl, rfl⟩
      · have hz : (n / K == 0) = false := by
          have : 1 ≤ n / K := (Int.le_ediv_iff_mul_le (by omega)).2 (by omega)
          simp
          omega
        have H8 : Hid ((r, n) = (ZR, ZN)) := Lib.hid (by
          have h7 := H7.out
          cases gk with
          | zero => exact h7
          | succ f => rw [rsA, if_neg hlt] at h7; exact h7)
        go_wp2_with fail
        go_meet
        have h9 := H8.out
        injection h9 with h10 h11
        subst h10 h11
        exact ⟨rfl, rfl, rfl⟩
  case rest =>
    obtain ⟨rfl, rfl, rfl⟩ := hcut
    go_wp2_with fail
    clear hnd hdp hf0 hf1 hd0
    have HD1 := Lib.hid (H.out.setdp (x.dp - ((ZR : Int) - 1)))
    have HB1 := Lib.hid (below_set (Below.refl B w) (o := 801) hB (.int .i64 (x.dp - ((ZR : Int) - 1))))
    obtain ⟨DP, hDP⟩ : ∃ DP, DP = x.dp - ((ZR : Int) - 1) := ⟨_, rfl⟩
    rw [← hDP] at HD1 HB1 ⊢
    have HDP := Lib.hid hDP
    clear hDP
    have HY : Hid (rsC K (val x.d x.nd) (x.nd - ZR) ZR 0 ZN x.d = rsQ K x) := Lib.hid (by unfold rsQ; rw [HZZ.out])
    generalize hyy : rsQ K x = Y at HY
    have HYY := Lib.hid hyy
    obtain ⟨YW, YN, YD⟩ := Y
    clear hyy
    go_loopg [4, 5, 6] (x.nd - ZR) (fun j r ww n wr => ∃ (rr w1 : Nat) (nn : Int) (d : Nat → Int), r = .int .i64 rr ∧ ww = .int .i64 w1 ∧ n = .int .u64 nn ∧ (rr + j = x.nd ∨ (j = 0 ∧ x.nd ≤ rr)) ∧ w1 < rr ∧ rr ≤ 820 ∧ 0 ≤ nn ∧ nn < 10 * K ∧ (∀ i, rr ≤ i → i < x.nd → d i = x.d i) ∧ rsC K (val x.d x.nd) j rr w1 nn d = (YW, YN, YD) ∧ (w1 + j ≤ x.nd) ∧ DecAt wr b ⟨d, x.nd, DP, x.ng, x.tr⟩ ∧ Below B w wr)
    case atStart => exact ⟨ZR, 0, ZN, x.d, rfl, rfl, rfl, by omega, by omega, by omega, by omega, by omega, fun _ _ _ => rfl, HY.out, by omega, HD1.out, HB1.out⟩
    case round =>
      obtain ⟨r, w1, n, d, rfl, rfl, rfl, h1, h2, h3, h4, h5, h6, h7, h8, h9, h10⟩ := hrel
      have H6 := Lib.hid h6
      have H7 := Lib.hid h7
      have H9 := Lib.hid h9
      have H10 := Lib.hid h10
      have hnd := h9.nd
      clear h6 h7 h9 h10
      dsimp only at hnd
      by_cases hr : r < x.nd
      · obtain ⟨j, rfl⟩ : ∃ j, gk = j + 1 := ⟨gk - 1, by omega⟩
        have H8 : Hid (rsC K (val x.d x.nd) j (r + 1) (w1 + 1) (n % K * 10 + (x.d r - 48)) (dupd d w1 (n / K + 48)) = (YW, YN, YD)) := Lib.hid (by
          have h7 := H7.out
          rw [rsC, val_in hr] at h7
          exact h7)
        have hc := H9.out.dg r (by omega)
        have hcw := H9.out.dg w1 (by omega)
        have hfw := H9.out.fr w1
        have hD := HX.out.dig r hr
        have hD1 := hD.1
        have hD2 := hD.2
        dsimp only at hc hcw
        rw [H6.out r (Nat.le_refl _) hr] at hc
        have q0 : 0 ≤ n / K := Int.ediv_nonneg h4 (by omega)
        have q9 : n / K < 10 := Int.ediv_lt_of_lt_mul (by omega) h5
        have m0 := Int.emod_nonneg n (show K ≠ 0 by omega)
        have m1 := Int.emod_lt_of_pos n (show 0 < K by omega)
        have hand := and_mask k hk60 K n HK.out h4 (by omega)
        have hr0 : (0 : Int) ≤ r := by omega
        have hr1 : (r : Int) < 800 := by omega
        have hr2 : (r : Int) < x.nd := by omega
        have hw0 : (0 : Int) ≤ w1 := by omega
        have hw1 : (w1 : Int) < 800 := by omega
        clear hD
        go_wp2_with fail
        go_roundg j
        case measure => omega
        case rel =>
          refine ⟨r + 1, w1 + 1, n % K * 10 + x.d r - 48, dupd d w1 (n / K + 48), by simp, by simp, rfl, by omega, by omega, by omega, by omega, by omega, fun i hi1 hi2 => ?_, ?_, by omega, H9.out.setd w1 (by omega) (n / K + 48), below_set H10.out hB _⟩
          · rw [upd_ne _ _ _ (by omega)]
            exact H6.out i (by omega) hi2
          · rw [show n % K * 10 + x.d r - 48 = n % K * 10 + (x.d r - 48) from by omega]
            exact H8.out
      · obtain rfl : gk = 0 := by omega
        have hr2 : (x.nd : Int) ≤ r := by omega
        have H8 : Hid ((w1, n, d) = (YW, YN, YD)) := Lib.hid H7.out
        have h8 := H8.out
        injection h8 with e1 e2
        injection e2 with e2 e3
        subst e1 e2 e3
        clear H8 H7 H6 HD1 HB1
        have hv1 : w1 ≤ 800 := by omega
        have HV : Hid (rsD K (k + 1) w1 n d x.tr = rsR k K x) := Lib.hid (by unfold rsR; rw [HYY.out])
        generalize hvv : rsR k K x = V at HV
        have HVV := Lib.hid hvv
        obtain ⟨VW, VD, VT⟩ := V
        clear hvv
        go_wp2_with fail
        go_loopg [5, 6] (k + 1) (fun f ww n wr => ∃ (w1 : Nat) (nn : Int) (d : Nat → Int) (t : Bool), ww = .int .i64 w1 ∧ n = .int .u64 nn ∧ w1 ≤ 800 ∧ 0 ≤ nn ∧ nn < 10 * K ∧ Left K f nn ∧ rsD K f w1 nn d t = (VW, VD, VT) ∧ DecAt wr b ⟨d, x.nd, DP, x.ng, t⟩ ∧ Below B w wr)
        case atStart => exact ⟨w1, n, d, x.tr, rfl, rfl, hv1, h4, h5, left_start k HK.out n, HV.out, H9.out, H10.out⟩
        case round =>
          clear hnd hv1 h4 h5 h1 h2 h3 h8 hr hr2 H9 H10 HV HY
          obtain ⟨w1, n, d, t, rfl, rfl, h3, h4, h5, h6, h7, h9, h10⟩ := hrel
          have H6 := Lib.hid h6
          have H7 := Lib.hid h7
          have H9 := Lib.hid h9
          have H10 := Lib.hid h10
          clear h6 h7 h9 h10
          have hnd := H9.out.nd
          have hf0 := H9.out.fr 800
          dsimp only at hnd
          by_cases hn : 0 < n
          · have hnb : decide (0 < n) = true := by simpa using hn
            have hf : 0 < gk := by
              rcases Nat.eq_zero_or_pos gk with e | e
              · have h6 := H6.out
                rw [e] at h6
                have h7 : n = 0 := h6
                omega
              · exact e
            obtain ⟨f, rfl⟩ : ∃ f, gk = f + 1 := ⟨gk - 1, by omega⟩
            have q0 : 0 ≤ n / K := Int.ediv_nonneg h4 (by omega)
            have q9 : n / K < 10 := Int.ediv_lt_of_lt_mul (by omega) h5
            have m0 := Int.emod_nonneg n (show K ≠ 0 by omega)
            have m1 := Int.emod_lt_of_pos n (show 0 < K by omega)
            have hand := and_mask k hk60 K n HK.out h4 (by omega)
            have HL := Lib.hid (left_step (show 0 < K by omega) h4 H6.out)
            have hw0 : (0 : Int) ≤ w1 := by omega
            by_cases hw : w1 < 800
            · have hw1 : (w1 : Int) < 800 := by omega
              have hcw := H9.out.dg w1 (by omega)
              have hfw := H9.out.fr w1
              dsimp only at hcw
              have H8 : Hid (rsD K f (w1 + 1) (n % K * 10) (dupd d w1 (n / K + 48)) t = (VW, VD, VT)) := Lib.hid (by
                have h7 := H7.out
                rw [rsD, if_pos hn, if_pos hw] at h7
                exact h7)
              go_wp2_with fail
              go_roundg f
              case measure => omega
              case rel => exact ⟨w1 + 1, n % K * 10, dupd d w1 (n / K + 48), t, by simp, rfl, by omega, by omega, by omega, HL.out, H8.out, H9.out.setd w1 hw (n / K + 48), below_set H10.out hB _⟩
            · have hw1 : (800 : Int) ≤ w1 := by omega
              have htr := H9.out.tr
              have hf3 := H9.out.fr 803
              dsimp only at htr
              have H8 : Hid (rsD K f w1 (n % K * 10) d (t || decide (0 < n / K)) = (VW, VD, VT)) := Lib.hid (by
                have h7 := H7.out
                rw [rsD, if_pos hn, if_neg hw] at h7
                exact h7)
              by_cases hq : 0 < n / K
              · have hqb : decide (0 < n / K) = true := by simpa using hq
                go_wp2_with fail
                go_roundg f
                case measure => omega
                case rel =>
                  refine ⟨w1, n % K * 10, d, true, rfl, rfl, h3, by omega, by omega, HL.out, ?_, H9.out.settr true, below_set H10.out hB _⟩
                  have h8 := H8.out
                  rw [hqb, Bool.or_true] at h8
                  exact h8
              · have hqb : decide (0 < n / K) = false := by simpa using hq
                go_wp2_with fail
                go_roundg f
                case measure => omega
                case rel =>
                  refine ⟨w1, n % K * 10, d, t, rfl, rfl, h3, by omega, by omega, HL.out, ?_, H9.out, H10.out⟩
                  have h8 := H8.out
                  rw [hqb, Bool.or_false] at h8
                  exact h8
          · have hnb : decide (0 < n) = false := by simpa using hn
            have H8 : Hid ((w1, d, t) = (VW, VD, VT)) := Lib.hid (by
              have h7 := H7.out
              cases gk with
              | zero => exact h7
              | succ f => rw [rsD, if_neg hn] at h7; exact h7)
            have h8 := H8.out
            injection h8 with e1 e2
            injection e2 with e2 e3
            subst e1 e2 e3
            clear H8 H7 H6
            have HT := Lib.hid (trim_run ⟨d, w1, DP, x.ng, t⟩ h3 B b hB _ (H9.out.setnd w1))
            go_wp2_with (go_at_call 231; refine HT.out.mono ?_; rintro r w9 ⟨rfl, h9, h10⟩)
            go_end0
            rw [HQ.out]
            refine ⟨rfl, ?_, (below_set H10.out hB _).trans h10⟩
            have e : rsX k K x = trimX ⟨d, w1, DP, x.ng, t⟩ := by
              unfold rsX
              rw [HVV.out, HDP.out, HZZ.out]
            rw [e]
            exact h9
end Go.Proofs.YtnggkkdcddpjlaaGreatDoor
