/- internal/strconv.readFloat at the base 16: its walk. -/
import Derived.Test.YtnggkkdcddpjlaaGreatDoorZ02
namespace Go.Proofs.YtnggkkdcddpjlaaGreatDoor
open Go.RowKit
set_option maxRecDepth 100000
set_option linter.unusedVariables false
set_option linter.unusedSimpArgs false
theorem rf_hat {B M : Int} {s : ByteArray} {k : Nat} {m nd nm dp : Int} {us sd sg tr : Bool} (hk : k < s.size) (c : Int) (hc : byt s k = c) (lc : Int) (hl : low c = lc) : rfStep true B M s ⟨k, m, nd, nm, dp, us, sd, sg, tr⟩ =
    if c = 95 then some ⟨k + 1, m, nd, nm, dp, true, sd, sg, tr⟩
    else if c = 46 then (if sd = true then none else some ⟨k + 1, m, nd, nm, nd, us, true, sg, tr⟩)
    else if 48 ≤ c ∧ c ≤ 57 then
      (if c = 48 ∧ nd = 0 then some ⟨k + 1, m, nd, nm, dp - 1, us, sd, true, tr⟩
      else if nm < M then some ⟨k + 1, IntKind.u64.wrap (IntKind.u64.wrap (m * B) + (c - 48)), nd + 1, nm + 1, dp, us, sd, true, tr⟩
      else if c = 48 then some ⟨k + 1, m, nd + 1, nm, dp, us, sd, true, tr⟩
      else some ⟨k + 1, m, nd + 1, nm, dp, us, sd, true, true⟩)
    else if 97 ≤ lc ∧ lc ≤ 102 then
      (if nm < M then some ⟨k + 1, IntKind.u64.wrap (IntKind.u64.wrap (m * 16) + (lc - 97 + 10)), nd + 1, nm + 1, dp, us, sd, true, tr⟩
      else some ⟨k + 1, m, nd + 1, nm, dp, us, sd, true, true⟩)
    else none := by
  rw [rf_at hk c hc, hl]
  simp only [true_and]
set_option maxHeartbeats 2000000 in
theorem rf_hex (U : ByteArray → Bool) (hU : Under U) (s : ByteArray) (hs : (s.size : Int) ≤ 1000000) (h0 : 0 < s.size) (hx : rfHex s = true) (w : World) :
    Calls Tryz.prog 240 #[.string s] w fun e w' => e = .returned (rfVal (rfSign s) true (rfFin true U s (runL (rfStep true 16 16 s) s.size (rfStart (rfI1 s + 2))))) ∧ w' = w := by
  obtain ⟨hE, hI, hN⟩ := runL_ends (step := rfStep true 16 16 s) (RFI s) (fun x => s.size - x.i) (rf_keep true 16 16 (by omega) s) s.size (rfStart (rfI1 s + 2)) (Nat.sub_le _ _) (by
    have h3 : rfI1 s + 2 < s.size := by
      unfold rfHex at hx
      exact (of_decide_eq_true hx).1.1
    have : rfI1 s ≤ 1 := by unfold rfI1; split <;> (try split) <;> omega
    refine ⟨?_, ?_, ?_, ?_, ?_, ?_, ?_, ?_, ?_⟩ <;> simp [rfStart] <;> omega)
  generalize runL (rfStep true 16 16 s) s.size (rfStart (rfI1 s + 2)) = fx at hE hI hN ⊢
  obtain ⟨fi, fm, fnd, fnm, fdp, fus, fsd, fsg, ftr⟩ := fx
  obtain ⟨NG, hNG⟩ : ∃ b, b = rfSign s := ⟨_, rfl⟩
  rw [← hNG]
  have HNG := Lib.hid hNG
  obtain ⟨RR, hRR⟩ : ∃ r, r = rfFin true U s ⟨fi, fm, fnd, fnm, fdp, fus, fsd, fsg, ftr⟩ := ⟨_, rfl⟩
  rw [← hRR]
  have HRR := Lib.hid hRR
  clear hNG hRR
  have hUU := fun (k : Nat) (h : (k : Int) ≤ s.size) w => hU (s.extract 0 k) (by rw [ByteArray.size_extract]; omega) w
  have HUU := Lib.hid hUU
  clear hU hUU
  obtain ⟨Q, hQ⟩ : ∃ Q : Ending → World → Prop, Q = fun e w' => e = .returned (rfVal NG true RR) ∧ w' = w := ⟨_, rfl⟩
  rw [← hQ]
  have HQ := Lib.hid hQ
  clear hQ
  have HE := Lib.hid hE
  have HI := Lib.hid hI
  have HN := Lib.hid hN
  have HX := Lib.hid hx
  clear hE hI hN hx
  have hb := fun k (h : k < s.size) => byt_at h
  have hne : ¬ (s = ByteArray.empty) := fun h => by rw [h] at h0; exact absurd h0 (by decide)
  have hlow := fun c w => Tryz.internal_strconv_lower c w
  have HLow := Lib.hid hlow
  have HB := Lib.hid hb
  clear hlow hb
  go_enter Tryz.func240, Tryz.ntmps240
  go_wp2_with fail
  go_step3
  go_upto_block 0 with fail
  have hbi := byt_in s 0
  have hb0 := HB.out 0 h0
  have HI1 : Hid (rfI1 s = if byt s 0 = 43 then 1 else if byt s 0 = 45 then 1 else 0) := Lib.hid rfl
  have HSg : Hid (rfSign s = (byt s 0 == 45)) := Lib.hid rfl
  generalize byt s 0 = c0 at hb0 HI1 HSg hbi
  go_cut [4, 7] from 25 to 35 (fun ng i wr => w = wr ∧ ng = .bool NG ∧ i = .int .i64 (rfI1 s))
  case first =>
    go_wp2_with fail
    all_goals
      go_meet
      refine ⟨rfl, ?_, ?_⟩
      · rw [HNG.out, HSg.out]
        simp_all
      · rw [HI1.out]
        simp_all
  case rest =>
    obtain ⟨rfl, rfl, rfl⟩ := hcut
    clear hb0 HSg HI1 hbi
    have hi1 : rfI1 s ≤ 1 := by unfold rfI1; split <;> (try split) <;> omega
    have hxx : Hid ((rfI1 s + 2 < s.size ∧ byt s (rfI1 s) = 48) ∧ low (byt s (rfI1 s + 1)) = 120) := Lib.hid (by have h := HX.out; unfold rfHex at h; exact of_decide_eq_true h)
    generalize rfI1 s = i1 at hi1 hxx HE
    clear HX
    have hN1 : (0 : Int) ≤ (i1 : Int) + 1 := by omega
    have hN2 : ((i1 : Int) + 1).toNat = i1 + 1 := by omega
    go_upto_region 12 with fail
    go_cut [54] from 36 to 53 (fun b wr => w = wr ∧ b = .bool true)
    case first =>
      obtain ⟨⟨h2, h48⟩, h120⟩ := hxx.out
      have e1 := HB.out i1 (by omega)
      have e2 := HB.out (i1 + 1) (by omega)
      have hlt0 : (i1 : Int) < s.size := by omega
      have hlt1 : (i1 : Int) + 1 < s.size := by omega
      have hlt2 : (i1 : Int) + 2 < s.size := by omega
      have hno : (low (byt s (i1 + 1)) == 120) = true := by simpa using h120
      unfold low at hno
      rw [h48] at e1
      clear h120
      go_wp2_with (go_at_call 214; refine (HLow.out _ _).mono ?_; rintro r w1 ⟨rfl, rfl⟩)
      go_meet
      exact ⟨rfl, rfl⟩
    case rest =>
      obtain ⟨rfl, rfl⟩ := hcut
      have hi2 : i1 + 2 ≤ s.size := by have := hxx.out.1.1; omega
      clear hN1 hN2 hxx
      go_upto_block 1 with fail
      go_step3
      go_upto_block 1 with fail
      go_cut [2, 5, 7, 9, 13, 14, 15, 16, 17] from 57 to 138 (fun m tr i us sd sg nd nm dp wr => w = wr ∧ m = .int .u64 fm ∧ tr = .bool ftr ∧ i = .int .i64 fi ∧ us = .bool fus ∧ sd = .bool fsd ∧ sg = .bool fsg ∧ nd = .int .i64 fnd ∧ nm = .int .i64 fnm ∧ dp = .int .i64 fdp)
      case first =>
        go_wp2_with fail
        go_loop [2, 5, 7, 9, 13, 14, 15, 16, 17] (fun m tr i us sd sg nd nm dp => ∃ x : RF, RFI s x ∧ Ends (rfStep true 16 16 s) x ⟨fi, fm, fnd, fnm, fdp, fus, fsd, fsg, ftr⟩ ∧ m = .int .u64 x.m ∧ tr = .bool x.tr ∧ i = .int .i64 x.i ∧ us = .bool x.us ∧ sd = .bool x.sd ∧ sg = .bool x.sg ∧ nd = .int .i64 x.nd ∧ nm = .int .i64 x.nm ∧ dp = .int .i64 x.dp) (fun _ _ i _ _ _ _ _ _ => s.size - (intOf i).toNat)
        case atStart => exact ⟨rfStart (i1 + 2), ⟨hi2, by show (0 : Int) ≤ 0; omega, by show (0 : Int) < 18446744073709551616; omega, by show (0 : Int) ≤ 0; omega, by show (0 : Int) ≤ ((i1 + 2 : Nat) : Int); omega, by show (0 : Int) ≤ 0; omega, by show (0 : Int) ≤ 19; omega, by show -((i1 + 2 : Nat) : Int) ≤ 0; omega, by show (0 : Int) ≤ ((i1 + 2 : Nat) : Int); omega⟩, HE.out, rfl, rfl, (by simp [rfStart]), rfl, rfl, rfl, rfl, rfl, rfl⟩
        case round =>
          obtain ⟨⟨k, m, nd, nm, dp, us, sd, sg, tr⟩, hI, hE, rfl, rfl, rfl, rfl, rfl, rfl, rfl, rfl, rfl⟩ := hrel
          obtain ⟨a1, a2, a3, a4, a5, a6, a7, a8, a9⟩ := hI
          have HIx : Hid (RFI s ⟨k, m, nd, nm, dp, us, sd, sg, tr⟩) := Lib.hid ⟨a1, a2, a3, a4, a5, a6, a7, a8, a9⟩
          have HEx := Lib.hid hE
          dsimp only at a1 a2 a3 a4 a5 a6 a7 a8 a9
          clear hE
          by_cases hk : k < s.size
          · have hbk := HB.out k hk
            have hc := byt_in s k
            have hk2 : (k : Int) < s.size := by omega
            obtain ⟨c, hcc⟩ : ∃ c, byt s k = c := ⟨_, rfl⟩
            rw [hcc] at hbk hc
            have HC := Lib.hid hcc
            clear hcc
            have hlc := low_in c
            have hL := fun w => HLow.out c w
            obtain ⟨lc, hlc2⟩ : ∃ x, low c = x := ⟨_, rfl⟩
            rw [hlc2] at hlc
            unfold low at hlc2
            rw [hlc2] at hL
            have HLC := Lib.hid hlc2
            have HL := Lib.hid hL
            clear hlc2 hL
            cases sd
            all_goals
              go_wp2_with (go_at_call 214; refine (HL.out _).mono ?_; rintro r w1 ⟨rfl, rfl⟩)
              all_goals (try simp only [beq_iff_eq, beq_eq_false_iff_ne, bne_iff_ne, ne_eq] at *)
              all_goals first
                | (refine ⟨⟨⟨k + 1, _, _, _, _, _, _, _, _⟩, (rf_keep true 16 16 (by omega) s _ _ HIx.out ?_).1, HEx.out.next ?_, rfl, rfl, by simp, rfl, rfl, rfl, rfl, rfl, rfl⟩, by simp [intOf]; omega⟩
                   all_goals
                     rw [rf_hat hk c HC.out lc HLC.out]
                     (repeat' first | rw [if_pos (by omega)] | rw [if_neg (by omega)] | rw [if_neg (by decide)] | rw [if_pos rfl])
                     try first | rfl | ((obtain rfl : c = 48 := (by omega)); simp [IntKind.wrap, IntKind.bits, IntKind.signed]))
                | (go_meet
                   have hz := Ends.done HEx.out (by
                     rw [rf_hat hk c HC.out lc HLC.out]
                     (repeat' first | rw [if_pos (by omega)] | rw [if_neg (by omega)] | rw [if_neg (by decide)] | rw [if_pos rfl] | rw [if_neg (by simp)]))
                   cases hz
                   exact ⟨rfl, rfl, rfl, rfl, rfl, rfl, rfl, rfl, rfl, rfl⟩)
          · go_wp2_with fail
            go_meet
            have hz := HEx.out.done (rf_out hk)
            cases hz
            exact ⟨rfl, rfl, rfl, rfl, rfl, rfl, rfl, rfl, rfl, rfl⟩
      case rest =>
        obtain ⟨rfl, rfl, rfl, rfl, rfl, rfl, rfl, rfl, rfl, rfl⟩ := hcut
        have hfi := HI.out.i
        have hnd0 := HI.out.nd0
        have hnd1 := HI.out.nd1
        have hnm0 := HI.out.nm0
        have hnm1 := HI.out.nm1
        have hdp0 := HI.out.dp0
        have hdp1 := HI.out.dp1
        dsimp only at hfi hnd0 hnd1 hnm0 hnm1 hdp0 hdp1
        clear HE HN
        cases fsg
        · go_wp2_with fail
          rw [Exit.noGoto_ret, HQ.out]
          refine bodyPost_ret (v := rfVal NG true RR) ?_ rfl ⟨rfl, rfl⟩
          rw [HRR.out]
          simp [results, Tryz.results240, go_sem, rfVal, rfFin]
        · go_upto_if 142 with fail
          go_cut [17] from 142 to 143 (fun dp wr => w = wr ∧ dp = .int .i64 (if fsd = true then fdp else fnd))
          case first =>
            cases fsd <;> (go_wp2_with fail; go_meet; exact ⟨rfl, rfl⟩)
          case rest =>
            obtain ⟨rfl, rfl⟩ := hcut
            have hd0 : -(fi : Int) ≤ (if fsd = true then fdp else fnd) := by split <;> omega
            have hd1 : (if fsd = true then fdp else fnd) ≤ fi := by split <;> omega
            obtain ⟨D, hD⟩ : ∃ D, D = (if fsd = true then fdp else fnd) := ⟨_, rfl⟩
            rw [← hD] at hd0 hd1 ⊢
            have HD := Lib.hid hD
            clear hD
            go_upto_region 57 with fail
            obtain ⟨D4, hD4⟩ : ∃ d, d = D * 4 := ⟨_, rfl⟩
            obtain ⟨N4, hN4⟩ : ∃ d, d = fnm * 4 := ⟨_, rfl⟩
            rw [← hD4, ← hN4]
            have hd2 : -(4 * (fi : Int)) ≤ D4 := by omega
            have hd3 : D4 ≤ 4 * (fi : Int) := by omega
            have hn4 : 0 ≤ N4 := by omega
            have hn5 : N4 ≤ 80 := by omega
            have HD4 := Lib.hid hD4
            have HN4 := Lib.hid hN4
            clear hD4 hN4
            go_cut [161] from 150 to 160 (fun b wr => w = wr ∧ b = .bool (decide (fi < s.size ∧ low (byt s fi) = 112)))
            case first =>
              by_cases h1 : fi < s.size
              · have e1 := HB.out fi h1
                have e2 : (fi : Int) < s.size := by omega
                by_cases h2 : low (byt s fi) = 112
                · have h3 : (low (byt s fi) == 112) = true := by simpa using h2
                  unfold low at h3
                  go_wp2_with (go_at_call 214; refine (HLow.out _ _).mono ?_; rintro r w1 ⟨rfl, rfl⟩)
                  go_meet
                  exact ⟨rfl, by simp [h1, h2]⟩
                · have h3 : (low (byt s fi) == 112) = false := by simpa using h2
                  unfold low at h3
                  go_wp2_with (go_at_call 214; refine (HLow.out _ _).mono ?_; rintro r w1 ⟨rfl, rfl⟩)
                  go_meet
                  exact ⟨rfl, by simp [h2]⟩
              · go_wp2_with fail
                go_meet
                exact ⟨rfl, by simp [h1]⟩
            case rest =>
              obtain ⟨rfl, rfl⟩ := hcut
              obtain ⟨B1, hB1⟩ : ∃ b, b = decide (fi < s.size ∧ low (byt s fi) = 112) := ⟨_, rfl⟩
              rw [← hB1]
              have HB1 := Lib.hid hB1
              clear hB1
              obtain ⟨X, hX⟩ : ∃ X, X = rfExp true s fi D4 fus := ⟨_, rfl⟩
              have HRX : Hid (RR = if X.ok = true then ⟨fm, if fm = 0 then 0 else X.dp - N4, ftr, X.n, !(X.us && !U (s.extract 0 X.n))⟩ else ⟨fm, 0, ftr, X.n, false⟩) := Lib.hid (by
                rw [HRR.out, hX, HD4.out, HN4.out, HD.out]
                simp [rfFin, Int.mul_comm])
              obtain ⟨xo, xn, xdp, xus⟩ := X
              have HX := Lib.hid hX
              clear hX
              go_upto_if 161 with fail
              go_cut [7, 9, 17] from 162 to 239 (fun i us dp wr => w = wr ∧ xo = true ∧ i = .int .i64 xn ∧ us = .bool xus ∧ dp = .int .i64 xdp ∧ xn ≤ s.size ∧ -6000000 ≤ xdp ∧ xdp ≤ 6000000)
              case first =>
                by_cases hb : fi < s.size ∧ low (byt s fi) = 112
                · obtain rfl : B1 = true := by rw [HB1.out]; simpa using hb
                  obtain ⟨hb1, hb2⟩ := hb
                  by_cases h2 : fi + 1 < s.size
                  · have hX2 : Hid ((⟨xo, xn, xdp, xus⟩ : RX) = (if rxJ s fi < s.size ∧ 48 ≤ byt s (rxJ s fi) ∧ byt s (rxJ s fi) ≤ 57 then ⟨true, (runL (reStep s) s.size ⟨rxJ s fi, 0, fus⟩).k, D4 + (if byt s (fi + 1) = 45 then -(runL (reStep s) s.size ⟨rxJ s fi, 0, fus⟩).e else (runL (reStep s) s.size ⟨rxJ s fi, 0, fus⟩).e), (runL (reStep s) s.size ⟨rxJ s fi, 0, fus⟩).us⟩ else ⟨false, rxJ s fi, D4, fus⟩)) := Lib.hid (by
                      rw [HX.out, rfExp, if_pos (show fi < s.size ∧ low (byt s fi) = (if true = true then (112 : Int) else 101) from ⟨hb1, hb2⟩), if_pos h2])
                    have e1 := HB.out (fi + 1) h2
                    have e2 : (fi : Int) + 1 < s.size := by omega
                    have e3 : ((fi : Int) + 1).toNat = fi + 1 := by omega
                    have HJ : Hid (rxJ s fi = if byt s (fi + 1) = 43 then fi + 2 else if byt s (fi + 1) = 45 then fi + 2 else fi + 1) := Lib.hid rfl
                    have hj1 : rxJ s fi ≤ s.size := by rw [HJ.out]; split <;> (try split) <;> omega
                    generalize rxJ s fi = j at hX2 HJ hj1
                    obtain ⟨c1, hc1⟩ : ∃ c, byt s (fi + 1) = c := ⟨_, rfl⟩
                    rw [hc1] at e1 HJ hX2
                    have hci := byt_in s (fi + 1)
                    rw [hc1] at hci
                    clear hc1
                    go_upto_block 4 with fail
                    go_cut [7, 19] from 171 to 178 (fun i es wr => w = wr ∧ i = .int .i64 j ∧ es = .int .i64 (if c1 = 45 then -1 else 1))
                    case first =>
                      by_cases h43 : c1 = 43
                      · obtain rfl : j = fi + 2 := by rw [HJ.out, if_pos h43]
                        subst h43
                        go_wp2_with fail
                        go_meet
                        exact ⟨rfl, by simp; omega, rfl⟩
                      · have h43b : (c1 == 43) = false := by simpa using h43
                        by_cases h45 : c1 = 45
                        · obtain rfl : j = fi + 2 := by rw [HJ.out, if_neg h43, if_pos h45]
                          subst h45
                          go_wp2_with fail
                          go_meet
                          exact ⟨rfl, by simp; omega, rfl⟩
                        · have h45b : (c1 == 45) = false := by simpa using h45
                          obtain rfl : j = fi + 1 := by rw [HJ.out, if_neg h43, if_neg h45]
                          go_wp2_with fail
                          go_meet
                          refine ⟨rfl, by simp, ?_⟩
                          rw [if_neg h45]
                    case rest =>
                      obtain ⟨rfl, rfl, rfl⟩ := hcut
                      obtain ⟨ES, hES⟩ : ∃ e : Int, e = (if c1 = 45 then -1 else 1) := ⟨_, rfl⟩
                      rw [← hES]
                      have HES := Lib.hid hES
                      clear hES HJ
                      obtain ⟨B2, hB2⟩ : ∃ b, b = decide (j < s.size ∧ 48 ≤ byt s j ∧ byt s j ≤ 57) := ⟨_, rfl⟩
                      have HB2 := Lib.hid hB2
                      clear hB2
                      go_upto_region 67 with fail
                      go_cut [194] from 179 to 193 (fun b wr => w = wr ∧ b = .bool (!B2))
                      case first =>
                        by_cases g1 : j < s.size
                        · have e4 := HB.out j g1
                          have e5 : (j : Int) < s.size := by omega
                          have hcj := byt_in s j
                          obtain ⟨cj, hcj2⟩ : ∃ c, byt s j = c := ⟨_, rfl⟩
                          rw [hcj2] at e4 hcj
                          by_cases g2 : 48 ≤ cj
                          · by_cases g3 : cj ≤ 57
                            · obtain rfl : B2 = true := by rw [HB2.out, hcj2]; simp [g1, g2, g3]
                              clear hcj2
                              go_wp2_with fail
                              go_meet
                              first | exact ⟨rfl, rfl⟩ | exact ⟨rfl, by simp; omega⟩
                            · obtain rfl : B2 = false := by rw [HB2.out, hcj2]; simp; omega
                              clear hcj2
                              go_wp2_with fail
                              go_meet
                              first | exact ⟨rfl, rfl⟩ | exact ⟨rfl, by simp; omega⟩
                          · obtain rfl : B2 = false := by rw [HB2.out, hcj2]; simp; omega
                            clear hcj2
                            go_wp2_with fail
                            go_meet
                            first | exact ⟨rfl, rfl⟩ | exact ⟨rfl, by simp; omega⟩
                        · obtain rfl : B2 = false := by rw [HB2.out]; simp; omega
                          have g1b : (s.size : Int) ≤ j := by omega
                          go_wp2_with fail
                          go_meet
                          first | exact ⟨rfl, rfl⟩ | exact ⟨rfl, by simp; omega⟩
                      case rest =>
                        obtain ⟨rfl, rfl⟩ := hcut
                        have hX3 := hX2.out
                        cases B2
                        · have hb3 : ¬ (j < s.size ∧ 48 ≤ byt s j ∧ byt s j ≤ 57) := by have h := HB2.out; simpa using h
                          rw [if_neg hb3] at hX3
                          clear hb3
                          cases hX3
                          go_wp2_with fail
                          (try rw [Exit.noGoto_ret])
                          rw [HQ.out]
                          refine bodyPost_ret (v := rfVal NG true RR) ?_ rfl ⟨rfl, rfl⟩
                          rw [HRX.out]
                          simp [results, Tryz.results240, go_sem, rfVal]
                        · have hb3 : j < s.size ∧ 48 ≤ byt s j ∧ byt s j ≤ 57 := by have h := HB2.out; simpa using h
                          rw [if_pos hb3] at hX3
                          obtain ⟨hE2, hI2, hN2⟩ := runL_ends (step := reStep s) (REI s) (fun x => s.size - x.k) (re_keep s) s.size ⟨j, 0, fus⟩ (Nat.sub_le _ _) ⟨hj1, by show (0 : Int) ≤ 0; omega, by show (0 : Int) ≤ 100000; omega⟩
                          generalize runL (reStep s) s.size ⟨j, 0, fus⟩ = z at hE2 hI2 hN2 hX3
                          obtain ⟨zk, ze, zu⟩ := z
                          dsimp only at hX3
                          obtain ⟨PE, hPE⟩ : ∃ p : Int, p = (if c1 = 45 then -ze else ze) := ⟨_, rfl⟩
                          rw [← hPE] at hX3
                          have z1 := hI2.k
                          have z2 := hI2.e0
                          have z3 := hI2.e1
                          dsimp only at z1 z2 z3
                          have p1 : -100000 ≤ PE := by rw [hPE]; split <;> omega
                          have p2 : PE ≤ 100000 := by rw [hPE]; split <;> omega
                          have hmul : wrap64 (ze * ES) = PE := by
                            rw [HES.out, hPE]
                            unfold wrap64
                            split <;> omega
                          have HE2 := Lib.hid hE2
                          have HMul := Lib.hid hmul
                          clear hE2 hI2 hN2 hPE hmul hb3
                          cases hX3
                          go_upto_block 5 with fail
                          go_cut [7, 9, 20] from 195 to 232 (fun i us e wr => w = wr ∧ i = .int .i64 xn ∧ us = .bool xus ∧ e = .int .i64 ze)
                          case first =>
                            go_wp2_with fail
                            go_loop [7, 9, 20] (fun i us e => ∃ x : RE, REI s x ∧ Ends (reStep s) x ⟨xn, ze, xus⟩ ∧ i = .int .i64 x.k ∧ us = .bool x.us ∧ e = .int .i64 x.e) (fun i _ _ => s.size - (intOf i).toNat)
                            case atStart => exact ⟨⟨j, 0, fus⟩, ⟨hj1, by show (0 : Int) ≤ 0; omega, by show (0 : Int) ≤ 100000; omega⟩, HE2.out, rfl, rfl, rfl⟩
                            case round =>
                              obtain ⟨⟨k, e, us⟩, hI, hE, rfl, rfl, rfl⟩ := hrel
                              obtain ⟨a1, a2, a3⟩ := hI
                              have HIx : Hid (REI s ⟨k, e, us⟩) := Lib.hid ⟨a1, a2, a3⟩
                              have HEx := Lib.hid hE
                              dsimp only at a1 a2 a3
                              clear hE
                              by_cases hk : k < s.size
                              · have hbk := HB.out k hk
                                have hc := byt_in s k
                                have hk2 : (k : Int) < s.size := by omega
                                obtain ⟨c, hcc⟩ : ∃ c, byt s k = c := ⟨_, rfl⟩
                                rw [hcc] at hbk hc
                                have HC := Lib.hid hcc
                                clear hcc
                                go_wp2_with fail
                                all_goals (try simp only [beq_iff_eq, beq_eq_false_iff_ne, ne_eq] at *)
                                all_goals first
                                  | (exfalso; omega)
                                  | (refine ⟨⟨⟨k + 1, _, _⟩, (re_keep s _ _ HIx.out ?_).1, HEx.out.next ?_, by simp, rfl, rfl⟩, by simp [intOf]; omega⟩
                                     all_goals
                                       rw [re_at hk c HC.out]
                                       (repeat' first | rw [if_pos (by omega)] | rw [if_neg (by omega)])
                                       try rfl)
                                  | (go_meet
                                     have hz := Ends.done HEx.out (by
                                       rw [re_at hk c HC.out]
                                       (repeat' first | rw [if_pos (by omega)] | rw [if_neg (by omega)]))
                                     cases hz
                                     exact ⟨rfl, rfl, rfl, rfl⟩)
                              · go_wp2_with fail
                                go_meet
                                have hz := HEx.out.done (re_out hk)
                                cases hz
                                exact ⟨rfl, rfl, rfl, rfl⟩
                          case rest =>
                            obtain ⟨rfl, rfl, rfl, rfl⟩ := hcut
                            have hmul := HMul.out
                            go_wp2_with fail
                            go_meet
                            refine ⟨rfl, ?_, rfl, rfl, rfl, z1, by omega, by omega⟩
                            first | trivial | rfl
                  · have hX2 := HX.out
                    rw [rfExp, if_pos (show fi < s.size ∧ low (byt s fi) = (if true = true then (112 : Int) else 101) from ⟨hb1, hb2⟩), if_neg h2] at hX2
                    cases hX2
                    go_wp2_with fail
                    (try rw [Exit.noGoto_ret])
                    rw [HQ.out]
                    refine bodyPost_ret (v := rfVal NG true RR) ?_ rfl ⟨rfl, rfl⟩
                    rw [HRX.out]
                    simp [results, Tryz.results240, go_sem, rfVal]
                · obtain rfl : B1 = false := by rw [HB1.out]; simpa using hb
                  have hX2 := HX.out
                  rw [rfExp, if_neg (show ¬ (fi < s.size ∧ low (byt s fi) = (if true = true then (112 : Int) else 101)) from hb)] at hX2
                  cases hX2
                  clear hb
                  go_wp2_with fail
                  (try rw [Exit.noGoto_ret])
                  rw [HQ.out]
                  refine bodyPost_ret (v := rfVal NG true RR) ?_ rfl ⟨rfl, rfl⟩
                  rw [HRX.out]
                  simp [results, Tryz.results240, go_sem, rfVal]
              case rest =>
                obtain ⟨rfl, rfl, rfl, rfl, rfl, hn, hx0, hx1⟩ := hcut
                obtain ⟨EX, hEX⟩ : ∃ e, e = (if fm = 0 then 0 else xdp - N4) := ⟨_, rfl⟩
                have HEX := Lib.hid hEX
                clear hEX
                by_cases h0 : fm = 0
                · have hm : (fm != 0) = false := by simpa using h0
                  obtain rfl : EX = 0 := by rw [HEX.out, if_pos h0]
                  clear h0
                  have hn2 : (xn : Int) ≤ s.size := by omega
                  go_upto_region 79 with fail
                  obtain ⟨uu, huu⟩ : ∃ b, b = U (s.extract 0 xn) := ⟨_, rfl⟩
                  have hU2 := fun w => HUU.out xn hn2 w
                  rw [← huu] at hU2
                  have HU2 := Lib.hid hU2
                  have Huu := Lib.hid huu
                  clear hU2 huu
                  go_cut [252] from 245 to 251 (fun b wr => w = wr ∧ b = .bool (xus && !uu))
                  case first =>
                    cases xus
                    · go_wp2_with fail
                      go_meet
                      exact ⟨rfl, rfl⟩
                    · go_wp2_with (go_at_call 215; refine (HU2.out _).mono ?_; rintro r w1 ⟨rfl, rfl⟩)
                      go_meet
                      exact ⟨rfl, rfl⟩
                  case rest =>
                    obtain ⟨rfl, rfl⟩ := hcut
                    obtain ⟨B, hB⟩ : ∃ b, b = (xus && !uu) := ⟨_, rfl⟩
                    rw [← hB]
                    have hRv : RR = ⟨fm, 0, ftr, xn, !B⟩ := HRX.out.trans ((if_pos rfl).trans (by rw [← HEX.out, hB, Huu.out]))
                    have HRv := Lib.hid hRv
                    clear hB hRv
                    cases B
                    all_goals
                      go_wp2_with fail
                      (try rw [Exit.noGoto_ret])
                      rw [HQ.out]
                      refine bodyPost_ret (v := rfVal NG true RR) ?_ rfl ⟨rfl, rfl⟩
                      rw [HRv.out]
                      simp [results, Tryz.results240, go_sem, rfVal]
                · have hm : (fm != 0) = true := by simpa using h0
                  obtain rfl : EX = xdp - N4 := by rw [HEX.out, if_neg h0]
                  clear h0
                  have hn2 : (xn : Int) ≤ s.size := by omega
                  go_upto_region 79 with fail
                  obtain ⟨uu, huu⟩ : ∃ b, b = U (s.extract 0 xn) := ⟨_, rfl⟩
                  have hU2 := fun w => HUU.out xn hn2 w
                  rw [← huu] at hU2
                  have HU2 := Lib.hid hU2
                  have Huu := Lib.hid huu
                  clear hU2 huu
                  go_cut [252] from 245 to 251 (fun b wr => w = wr ∧ b = .bool (xus && !uu))
                  case first =>
                    cases xus
                    · go_wp2_with fail
                      go_meet
                      exact ⟨rfl, rfl⟩
                    · go_wp2_with (go_at_call 215; refine (HU2.out _).mono ?_; rintro r w1 ⟨rfl, rfl⟩)
                      go_meet
                      exact ⟨rfl, rfl⟩
                  case rest =>
                    obtain ⟨rfl, rfl⟩ := hcut
                    obtain ⟨B, hB⟩ : ∃ b, b = (xus && !uu) := ⟨_, rfl⟩
                    rw [← hB]
                    have hRv : RR = ⟨fm, xdp - N4, ftr, xn, !B⟩ := HRX.out.trans ((if_pos rfl).trans (by rw [← HEX.out, hB, Huu.out]))
                    have HRv := Lib.hid hRv
                    clear hB hRv
                    cases B
                    all_goals
                      go_wp2_with fail
                      (try rw [Exit.noGoto_ret])
                      rw [HQ.out]
                      refine bodyPost_ret (v := rfVal NG true RR) ?_ rfl ⟨rfl, rfl⟩
                      rw [HRv.out]
                      simp [results, Tryz.results240, go_sem, rfVal]
end Go.Proofs.YtnggkkdcddpjlaaGreatDoor
