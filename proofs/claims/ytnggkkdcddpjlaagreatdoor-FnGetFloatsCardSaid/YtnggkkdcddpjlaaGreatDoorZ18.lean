/- internal/strconv.atofHex at 32 bits. -/
import Derived.Test.YtnggkkdcddpjlaaGreatDoorZ08
import Derived.Test.YtnggkkdcddpjlaaGreatDoorZ12
import Derived.Test.YtnggkkdcddpjlaaGreatDoorZ16
import Derived.Test.YtnggkkdcddpjlaaGreatDoorZ17
namespace Go.Proofs.YtnggkkdcddpjlaaGreatDoor
open Go.RowKit
set_option maxRecDepth 100000
set_option linter.unusedVariables false
set_option linter.unusedSimpArgs false
/-- The float of 64 bits that a word of 32 bits is made: the number, or some nan. -/
def Wide (v f : Nat) : Prop := f < 18446744073709551616 ∧ (Num32 v → floatToFloatBits .f32 v .f64 = some f ∧ Num64 f) ∧ (¬ Num32 v → ¬ Num64 f)
theorem nan32 {v : Nat} (h : ¬ Num32 v) : ∃ s t, FloatKind.f32.decode v = .nan s t := by
  unfold Num32 at h
  have e1 : FloatKind.f32.format.signWeight = 2147483648 := by decide
  have e2 : FloatKind.f32.format.infRung = 2139095040 := by decide
  refine nan_read .f32 fmt32 v ?_
  rw [e1, e2]
  omega
theorem nan64 {v : Nat} (h : ¬ Num64 v) : ∃ s t, FloatKind.f64.decode v = .nan s t := by
  unfold Num64 at h
  have e1 : FloatKind.f64.format.signWeight = 9223372036854775808 := by decide
  have e2 : FloatKind.f64.format.infRung = 9218868437227405312 := by decide
  refine nan_read .f64 fmt64 v ?_
  rw [e1, e2]
  omega
/-- float64(x) of a float32: what it gives. -/
theorem conv_wide (v : Nat) (hv : v < 4294967296) : ∃ (cv : World → Nat) (cd : Nat), (∀ w, (convert 66 25 (.float .f32 v)).run Tryz.prog w = .ok (.float .f64 (cv w)) (w.drewN cd)) ∧ ∀ w, Wide v (cv w) := by
  by_cases h : Num32 v
  · obtain ⟨f, h1, h2, h3, h4⟩ := wid_nar v hv h
    exact ⟨fun _ => f, 0, fun w => run_convert_float_float (P := Tryz.prog) w 66 25 .f32 .f64 v f (by rw [Tryz.underlying66]; rfl) Tryz.underlying25 h3, fun w => ⟨h1, fun _ => ⟨h3, h2⟩, fun hc => absurd h hc⟩⟩
  · obtain ⟨nn, hnn⟩ := conv_nan 66 25 .f32 .f64 v (by rw [Tryz.underlying66]; rfl) Tryz.underlying25 (by decide) (nan32 h)
    exact ⟨nn, 1, fun w => (hnn w).1, fun w => ⟨(hnn w).2.1, fun hc => absurd hc h, fun _ => (hnn w).2.2⟩⟩
theorem ptr55 (w : World) : (binOp .eql 337 (.pointer (some ⟨5, 0, none⟩)) (.pointer (some ⟨5, 0, none⟩))).run Tryz.prog w = .ok (.bool true) w := by
  have hi := i339
  rcases h9 : Tryz.prog.info? 339 with _ | j
  · rw [h9] at hi; cases hi
  · exact run_eql_ptr_same w _ u337 h9
def hx132 (y : ME) : Option ME := if y.m ≠ 0 ∧ y.m < 33554432 then some ⟨y.m * 2, y.e - 1⟩ else none
structure H1I32 (y : ME) : Prop where
  m0 : 0 ≤ y.m
  m1 : y.m < 18446744073709551616
  e0 : -8000000 ≤ y.e + min y.m 67108864
  e1 : y.e ≤ 7000000
theorem hx1_keep32 (x y : ME) (h : H1I32 x) (hs : hx132 x = some y) : H1I32 y ∧ (18446744073709551616 - y.m).toNat < (18446744073709551616 - x.m).toNat := by
  obtain ⟨a1, a2, a3, a4⟩ := h
  unfold hx132 at hs
  split at hs
  · simp only [Option.some.injEq] at hs
    subst hs
    dsimp only
    exact ⟨⟨by dsimp only; omega, by dsimp only; omega, by dsimp only; omega, by dsimp only; omega⟩, by omega⟩
  · cases hs
def hx232 (y : ME) : Option ME := if 67108864 ≤ y.m then some ⟨hs y.m, y.e + 1⟩ else none
structure H2I32 (y : ME) : Prop where
  m0 : 0 ≤ y.m
  m1 : y.m < 18446744073709551616
  e0 : -40000000000000000 ≤ y.e
  e1 : y.e + y.m / 33554432 ≤ 1000000000000
theorem hx2_keep32 (x y : ME) (h : H2I32 x) (hh : hx232 x = some y) : H2I32 y ∧ y.m.toNat < x.m.toNat := by
  obtain ⟨a1, a2, a3, a4⟩ := h
  unfold hx232 at hh
  split at hh
  · simp only [Option.some.injEq] at hh
    subst hh
    obtain ⟨b1, b2, _⟩ := hs_in x.m a1 a2
    dsimp only
    exact ⟨⟨by dsimp only; omega, by dsimp only; omega, by dsimp only; omega, by dsimp only; omega⟩, by omega⟩
  · cases hh
def hx332 (y : ME) : Option ME := if 1 < y.m ∧ y.e < -128 then some ⟨hs y.m, y.e + 1⟩ else none
structure H3I32 (y : ME) : Prop where
  m0 : 0 ≤ y.m
  m1 : y.m < 67108864
  e0 : -40000000000000000 ≤ y.e
  e1 : y.e ≤ 1000000000000
theorem hx3_keep32 (x y : ME) (h : H3I32 x) (hh : hx332 x = some y) : H3I32 y ∧ (-128 - y.e).toNat < (-128 - x.e).toNat := by
  obtain ⟨a1, a2, a3, a4⟩ := h
  unfold hx332 at hh
  split at hh
  · simp only [Option.some.injEq] at hh
    subst hh
    obtain ⟨b1, b2, b3⟩ := hs_in x.m a1 (by omega)
    dsimp only
    exact ⟨⟨by dsimp only; omega, by dsimp only; omega, by dsimp only; omega, by dsimp only; omega⟩, by omega⟩
  · cases hh
def hxR32 (m : Int) : Bool := bits .or .u64 (bits .and .u64 m 3) (bits .and .u64 (m / 4) 1) == 3
def hxM32 (m : Int) : Int := if hxR32 m = true then (if m / 4 + 1 = 16777216 then (m / 4 + 1) / 2 else m / 4 + 1) else m / 4
def hxE32 (m e : Int) : Int := if hxR32 m = true ∧ m / 4 + 1 = 16777216 then e + 2 + 1 else e + 2
def hxD32 (m e : Int) : Int := if m / 8388608 = 0 then -127 else e
def hxV32 (ng : Bool) (m e : Int) : Int := if 127 < hxD32 m e then fbV32 ng 8388608 (128 + 127) else fbV32 ng m (hxD32 m e + 127)
def hxO32 (m e : Int) : Bool := decide (127 < hxD32 m e)
set_option maxHeartbeats 4000000 in
theorem hex_run32 (s : ByteArray) (m p : Int) (ng tr : Bool) (h0 : 0 ≤ m) (h1 : m < 18446744073709551616) (hp0 : -6000000 ≤ p) (hp1 : p ≤ 6000000) (Z1 Z2 Z3 : ME)
    (hE1 : Ends hx132 ⟨m, p + 23⟩ Z1) (hI1 : H1I32 Z1) (hN1 : hx132 Z1 = none) (Y : Int) (hY : Y = if tr = true then bits .or .u64 Z1.m 1 else Z1.m) (hYI : H2I32 ⟨Y, Z1.e⟩)
    (hE2 : Ends hx232 ⟨Y, Z1.e⟩ Z2) (hI2 : H2I32 Z2) (hN2 : hx232 Z2 = none) (hE3 : Ends hx332 Z2 Z3) (hI3 : H3I32 Z3) (hN3 : hx332 Z3 = none) (n : Nat) (v : Nat) (hv : (n : Int) % 4294967296 = v) (cv : World → Nat) (cd : Nat) (hcv : ∀ w, (convert 66 25 (.float .f32 v)).run Tryz.prog w = .ok (.float .f64 (cv w)) (w.drewN cd)) (hwd : ∀ w, Wide v (cv w)) (hn : hxV32 ng (hxM32 Z3.m) (hxE32 Z3.m Z3.e) = n) (w : World) (hF : FltAt w 5 23 8 (-127)) (hTw : Two w) :
    Calls Tryz.prog 241 #[.string s, .pointer (some ⟨5, 0, none⟩), .int .u64 m, .int .i64 p, .bool ng, .bool tr] w fun e w' => ∃ f, Wide v f ∧ e = .returned (.tuple #[.float .f64 f, erV (hxO32 (hxM32 Z3.m) (hxE32 Z3.m Z3.e))]) ∧ ∃ k, w' = w.drewN k := by
  obtain ⟨O, hO⟩ : ∃ o, o = hxO32 (hxM32 Z3.m) (hxE32 Z3.m Z3.e) := ⟨_, rfl⟩
  rw [← hO]
  obtain ⟨Q, hQ⟩ : ∃ Q : Ending → World → Prop, Q = fun e w' => ∃ f, Wide v f ∧ e = .returned (.tuple #[.float .f64 f, erV O]) ∧ ∃ k, w' = w.drewN k := ⟨_, rfl⟩
  rw [← hQ]
  have HQ := Lib.hid hQ
  have HO := Lib.hid hO
  have HN := Lib.hid hn
  have HCV := Lib.hid hcv
  have HWD := Lib.hid hwd
  have HV2 := Lib.hid hv
  clear hcv hwd hv
  have HE1 := Lib.hid hE1
  have HE2 := Lib.hid hE2
  have HE3 := Lib.hid hE3
  have HI1 := Lib.hid hI1
  have HI2 := Lib.hid hI2
  have HI3 := Lib.hid hI3
  have HN1 := Lib.hid hN1
  have HN2 := Lib.hid hN2
  have HN3 := Lib.hid hN3
  have HY := Lib.hid hY
  have HYI := Lib.hid hYI
  have hmb := hF.mb
  have heb := hF.eb
  have hbi := hF.bi
  clear hQ hO hn hE1 hE2 hE3 hI1 hI2 hI3 hN1 hN2 hN3 hY hYI hF
  go_enter Tryz.func241, Tryz.ntmps241
  go_wp2_with fail
  go_quiet (fail)
  go_upto_block 0 with fail
  have HPE : Hid (∀ k, (binOp .eql 337 (.pointer (some ⟨5, 0, none⟩)) (.pointer (some ⟨5, 0, none⟩))).run Tryz.prog ((w.drewN nq).drewN k) = .ok (.bool true) ((w.drewN nq).drewN k)) := Lib.hid (fun k => ptr55 _)
  clear hTw
  generalize hW : w.drewN nq = W at HPE
  have hmb' : W.cell? ⟨5, 0, none⟩ = some (.int .u64 23) := by rw [← hW]; exact hmb
  have heb' : W.cell? ⟨5, 1, none⟩ = some (.int .u64 8) := by rw [← hW]; exact heb
  have hbi' : W.cell? ⟨5, 2, none⟩ = some (.int .i64 (-127)) := by rw [← hW]; exact hbi
  have HW : Hid (∃ k, W = w.drewN k) := Lib.hid ⟨nq, hW.symm⟩
  clear hW hmb heb hbi
  go_cut [2, 3] from 42 to 57 (fun sm se wr => W = wr ∧ sm = .int .u64 Z1.m ∧ se = .int .i64 Z1.e)
  case first =>
    go_wp2_with fail
    go_loop [2, 3] (fun sm se => ∃ y : ME, H1I32 y ∧ Ends hx132 y Z1 ∧ sm = .int .u64 y.m ∧ se = .int .i64 y.e) (fun sm _ => (18446744073709551616 - intOf sm).toNat)
    case atStart => exact ⟨⟨m, p + 23⟩, ⟨h0, h1, by show -8000000 ≤ p + 23 + min m 67108864; omega, by show p + 23 ≤ 7000000; omega⟩, HE1.out, rfl, rfl⟩
    case round =>
      obtain ⟨⟨m, e⟩, hI, hE, rfl, rfl⟩ := hrel
      obtain ⟨a1, a2, a3, a4⟩ := hI
      dsimp only at a1 a2 a3 a4
      have HEx := Lib.hid hE
      have HIx : Hid (H1I32 ⟨m, e⟩) := Lib.hid ⟨a1, a2, a3, a4⟩
      clear hE
      by_cases hc : m ≠ 0 ∧ m < 33554432
      · have hst : hx132 ⟨m, e⟩ = some ⟨m * 2, e - 1⟩ := by unfold hx132; rw [if_pos hc]
        have HST := Lib.hid hst
        obtain ⟨hc1, hc2⟩ := hc
        have b1 : (m != 0) = true := by simpa using hc1
        have b2 : (m / 33554432 == 0) = true := by simp; omega
        clear hst hc1
        go_wp2_with fail
        exact ⟨⟨⟨m * 2, e - 1⟩, (hx1_keep32 _ _ HIx.out HST.out).1, HEx.out.next HST.out, rfl, rfl⟩, by have h9 := (hx1_keep32 _ _ HIx.out HST.out).2; simpa [intOf] using h9⟩
      · have hz := HEx.out.done (by unfold hx132; rw [if_neg hc])
        have HZ := Lib.hid hz
        clear hz
        by_cases hm0 : m = 0
        · have b1 : (m != 0) = false := by simpa using hm0
          clear hc hm0
          go_wp2_with fail
          go_meet
          rw [HZ.out]
          exact ⟨rfl, rfl, rfl⟩
        · have b1 : (m != 0) = true := by simpa using hm0
          have b2 : (m / 33554432 == 0) = false := by simp; omega
          clear hc hm0
          go_wp2_with fail
          go_meet
          rw [HZ.out]
          exact ⟨rfl, rfl, rfl⟩
  case rest =>
    obtain ⟨rfl, rfl, rfl⟩ := hcut
    obtain ⟨z1a, z1b, z1c, z1d⟩ := HI1.out
    go_upto_if 58 with fail
    go_cut [2] from 59 to 60 (fun sm wr => W = wr ∧ sm = .int .u64 Y)
    case first =>
      cases tr
      · have hy : Y = Z1.m := HY.out
        have HYy := Lib.hid hy
        clear hy
        go_wp2_with fail
        go_meet
        exact ⟨rfl, by rw [HYy.out]⟩
      · have hy : Y = bits .or .u64 Z1.m 1 := HY.out
        have HYy := Lib.hid hy
        clear hy
        go_wp2_with fail
        go_meet
        exact ⟨rfl, by rw [HYy.out]⟩
    case rest =>
      obtain ⟨rfl, rfl⟩ := hcut
      obtain ⟨ya, yb, yc, yd⟩ := HYI.out
      dsimp only at ya yb yc yd
      go_upto_block 2 with fail
      go_cut [2, 3] from 61 to 76 (fun sm se wr => W = wr ∧ sm = .int .u64 Z2.m ∧ se = .int .i64 Z2.e)
      case first =>
        go_wp2_with fail
        go_loop [2, 3] (fun sm se => ∃ y : ME, H2I32 y ∧ Ends hx232 y Z2 ∧ sm = .int .u64 y.m ∧ se = .int .i64 y.e) (fun sm _ => (intOf sm).toNat)
        case atStart => exact ⟨⟨Y, Z1.e⟩, HYI.out, HE2.out, rfl, rfl⟩
        case round =>
          obtain ⟨⟨m, e⟩, hI, hE, rfl, rfl⟩ := hrel
          obtain ⟨a1, a2, a3, a4⟩ := hI
          dsimp only at a1 a2 a3 a4
          have HEx := Lib.hid hE
          have HIx : Hid (H2I32 ⟨m, e⟩) := Lib.hid ⟨a1, a2, a3, a4⟩
          clear hE
          by_cases hc : 67108864 ≤ m
          · have hst : hx232 ⟨m, e⟩ = some ⟨hs m, e + 1⟩ := by unfold hx232; rw [if_pos hc]
            have HST := Lib.hid hst
            have b2 : (m / 67108864 != 0) = true := by simp; omega
            clear hst
            go_wp2_with fail
            exact ⟨⟨⟨hs m, e + 1⟩, (hx2_keep32 _ _ HIx.out HST.out).1, HEx.out.next HST.out, rfl, rfl⟩, (hx2_keep32 _ _ HIx.out HST.out).2⟩
          · have hz := HEx.out.done (by unfold hx232; rw [if_neg hc])
            have HZ := Lib.hid hz
            clear hz
            have b2 : (m / 67108864 != 0) = false := by simp; omega
            go_wp2_with fail
            go_meet
            rw [HZ.out]
            exact ⟨rfl, rfl, rfl⟩
      case rest =>
        obtain ⟨rfl, rfl, rfl⟩ := hcut
        obtain ⟨z2a, z2b, z2c, z2d⟩ := HI2.out
        have hz2m : Z2.m < 67108864 := by
          have h := HN2.out
          unfold hx232 at h
          split at h
          · cases h
          · omega
        go_upto_block 4 with fail
        go_cut [2, 3] from 77 to 91 (fun sm se wr => W = wr ∧ sm = .int .u64 Z3.m ∧ se = .int .i64 Z3.e)
        case first =>
          go_wp2_with fail
          go_loop [2, 3] (fun sm se => ∃ y : ME, H3I32 y ∧ Ends hx332 y Z3 ∧ sm = .int .u64 y.m ∧ se = .int .i64 y.e) (fun _ se => (-128 - intOf se).toNat)
          case atStart => exact ⟨Z2, ⟨z2a, hz2m, z2c, by omega⟩, HE3.out, rfl, rfl⟩
          case round =>
            obtain ⟨⟨m, e⟩, hI, hE, rfl, rfl⟩ := hrel
            obtain ⟨a1, a2, a3, a4⟩ := hI
            dsimp only at a1 a2 a3 a4
            have HEx := Lib.hid hE
            have HIx : Hid (H3I32 ⟨m, e⟩) := Lib.hid ⟨a1, a2, a3, a4⟩
            clear hE
            by_cases hc : 1 < m ∧ e < -128
            · have hst : hx332 ⟨m, e⟩ = some ⟨hs m, e + 1⟩ := by unfold hx332; rw [if_pos hc]
              have HST := Lib.hid hst
              obtain ⟨hc1, hc2⟩ := hc
              have b1 : decide (1 < m) = true := by simpa using hc1
              have b2 : decide (e < -128) = true := by simpa using hc2
              clear hst
              go_wp2_with fail
              exact ⟨⟨⟨hs m, e + 1⟩, (hx3_keep32 _ _ HIx.out HST.out).1, HEx.out.next HST.out, rfl, rfl⟩, (hx3_keep32 _ _ HIx.out HST.out).2⟩
            · have hz := HEx.out.done (by unfold hx332; rw [if_neg hc])
              have HZ := Lib.hid hz
              clear hz
              by_cases hm1 : 1 < m
              · have b1 : decide (1 < m) = true := by simpa using hm1
                have b2 : decide (e < -128) = false := by simp; omega
                clear hc
                go_wp2_with fail
                go_meet
                rw [HZ.out]
                exact ⟨rfl, rfl, rfl⟩
              · have b1 : decide (1 < m) = false := by simpa using hm1
                clear hc
                go_wp2_with fail
                go_meet
                rw [HZ.out]
                exact ⟨rfl, rfl, rfl⟩
        case rest =>
          obtain ⟨rfl, rfl, rfl⟩ := hcut
          obtain ⟨z3a, z3b, z3c, z3d⟩ := HI3.out
          obtain ⟨zm, ze⟩ := Z3
          dsimp only at z3a z3b z3c z3d HO HN
          obtain ⟨rn, hrn⟩ : ∃ b, b = hxR32 zm := ⟨_, rfl⟩
          have hrn' : (bits .or .u64 (bits .and .u64 zm 3) (bits .and .u64 (zm / 4) 1) == 3) = rn := hrn.symm
          have HRn := Lib.hid hrn
          obtain ⟨M3, hM3⟩ : ∃ M, M = hxM32 zm := ⟨_, rfl⟩
          obtain ⟨E3, hE3⟩ : ∃ E, E = hxE32 zm ze := ⟨_, rfl⟩
          rw [← hM3, ← hE3] at HO HN
          have HM3 : Hid (M3 = if rn = true then (if zm / 4 + 1 = 16777216 then (zm / 4 + 1) / 2 else zm / 4 + 1) else zm / 4) := Lib.hid (by rw [hM3, hrn]; rfl)
          have HE3' : Hid (E3 = if rn = true ∧ zm / 4 + 1 = 16777216 then ze + 2 + 1 else ze + 2) := Lib.hid (by rw [hE3, hrn]; rfl)
          have m3a : 0 ≤ M3 := by rw [hM3]; unfold hxM32; (repeat' split) <;> omega
          have m3b : M3 < 33554432 := by rw [hM3]; unfold hxM32; (repeat' split) <;> omega
          have e3a : -40000000000000000 ≤ E3 := by rw [hE3]; unfold hxE32; split <;> omega
          have e3b : E3 ≤ 2000000000000 := by rw [hE3]; unfold hxE32; split <;> omega
          clear hrn hM3 hE3
          go_upto_if 103 with fail
          clear hrn'
          go_cut [2, 3] from 104 to 117 (fun sm se wr => W = wr ∧ sm = .int .u64 M3 ∧ se = .int .i64 E3)
          case first =>
            cases rn
            · have hm : M3 = zm / 4 := HM3.out
              have he : E3 = ze + 2 := HE3'.out
              have HA := Lib.hid hm
              have HB := Lib.hid he
              clear hm he
              go_wp2_with fail
              go_meet
              exact ⟨rfl, by rw [HA.out], by rw [HB.out]⟩
            · by_cases h53 : zm / 4 + 1 = 16777216
              · have hm : M3 = (zm / 4 + 1) / 2 := by rw [HM3.out, if_pos rfl, if_pos h53]
                have he : E3 = ze + 2 + 1 := by rw [HE3'.out, if_pos ⟨rfl, h53⟩]
                have HA := Lib.hid hm
                have HB := Lib.hid he
                have b1 : (zm / 4 + 1 == 16777216) = true := by simpa using h53
                clear hm he h53
                go_wp2_with fail
                go_meet
                exact ⟨rfl, by rw [HA.out], by rw [HB.out]⟩
              · have hm : M3 = zm / 4 + 1 := by rw [HM3.out, if_pos rfl, if_neg h53]
                have he : E3 = ze + 2 := by rw [HE3'.out, if_neg (fun h => h53 h.2)]
                have HA := Lib.hid hm
                have HB := Lib.hid he
                have b1 : (zm / 4 + 1 == 16777216) = false := by simpa using h53
                clear hm he h53
                go_wp2_with fail
                go_meet
                exact ⟨rfl, by rw [HA.out], by rw [HB.out]⟩
          case rest =>
            obtain ⟨rfl, rfl, rfl⟩ := hcut
            obtain ⟨E4, hE4⟩ : ∃ E, E = hxD32 M3 E3 := ⟨_, rfl⟩
            have e4a : -40000000000000000 ≤ E4 := by rw [hE4]; unfold hxD32; split <;> omega
            have e4b : E4 ≤ 2000000000000 := by rw [hE4]; unfold hxD32; split <;> omega
            have HE4 : Hid (E4 = if M3 / 8388608 = 0 then -127 else E3) := Lib.hid hE4
            have HO' : Hid (O = decide (127 < E4)) := Lib.hid (by rw [HO.out, hE4]; rfl)
            have HN' : Hid ((if 127 < E4 then fbV32 ng 8388608 (128 + 127) else fbV32 ng M3 (E4 + 127)) = n) := Lib.hid (by rw [hE4]; exact HN.out)
            clear hE4 HO HN
            go_upto_if 124 with fail
            go_cut [3] from 124 to 128 (fun se wr => W = wr ∧ se = .int .i64 E4)
            case first =>
              by_cases hz : M3 / 8388608 = 0
              · have he : E4 = -127 := by rw [HE4.out, if_pos hz]
                have HA := Lib.hid he
                have b1 : (M3 / 8388608 == 0) = true := by simpa using hz
                clear he hz
                go_wp2_with fail
                go_meet
                exact ⟨rfl, by rw [HA.out]⟩
              · have he : E4 = E3 := by rw [HE4.out, if_neg hz]
                have HA := Lib.hid he
                have b1 : (M3 / 8388608 == 0) = false := by simpa using hz
                clear he hz
                go_wp2_with fail
                go_meet
                exact ⟨rfl, by rw [HA.out]⟩
            case rest =>
              obtain ⟨rfl, rfl⟩ := hcut
              obtain ⟨M5, hM5⟩ : ∃ M : Int, M = if 127 < E4 then 8388608 else M3 := ⟨_, rfl⟩
              obtain ⟨E5, hE5⟩ : ∃ E : Int, E = if 127 < E4 then 128 else E4 := ⟨_, rfl⟩
              have m5a : 0 ≤ M5 := by rw [hM5]; split <;> omega
              have m5b : M5 < 33554432 := by rw [hM5]; split <;> omega
              have e5a : -40000000000000000 ≤ E5 := by rw [hE5]; split <;> omega
              have e5b : E5 ≤ 2000000000000 := by rw [hE5]; split <;> omega
              have hn5 : fbV32 ng M5 (E5 + 127) = n := by
                rw [← HN'.out, hM5, hE5]
                split <;> rfl
              have HM5 := Lib.hid hM5
              have HE5 := Lib.hid hE5
              clear hM5 hE5 HN'
              have HN5 := Lib.hid hn5
              clear hn5
              go_upto_if 131 with fail
              go_cut [2, 3, 17] from 131 to 139 (fun sm se sr wr => W = wr ∧ sm = .int .u64 M5 ∧ se = .int .i64 E5 ∧ sr = erV O)
              case first =>
                by_cases ho : 127 < E4
                · have hm : M5 = 8388608 := by rw [HM5.out, if_pos ho]
                  have he : E5 = 128 := by rw [HE5.out, if_pos ho]
                  have hoo : O = true := by rw [HO'.out]; simpa using ho
                  have HA := Lib.hid hm
                  have HB := Lib.hid he
                  have HC := Lib.hid hoo
                  have b1 : decide (127 < E4) = true := by simpa using ho
                  clear hm he hoo
                  go_wp2_with fail
                  go_meet
                  exact ⟨rfl, by rw [HA.out], by rw [HB.out], by rw [HC.out]; rfl⟩
                · have hm : M5 = M3 := by rw [HM5.out, if_neg ho]
                  have he : E5 = E4 := by rw [HE5.out, if_neg ho]
                  have hoo : O = false := by rw [HO'.out]; simpa using ho
                  have HA := Lib.hid hm
                  have HB := Lib.hid he
                  have HC := Lib.hid hoo
                  have b1 : decide (127 < E4) = false := by simpa using ho
                  clear hm he hoo
                  go_wp2_with fail
                  go_meet
                  exact ⟨rfl, by rw [HA.out], by rw [HB.out], by rw [HC.out]; rfl⟩
              case rest =>
                obtain ⟨rfl, rfl, rfl, rfl⟩ := hcut
                have hfb := fun w => frombits32 v w
                have hcv := HCV.out
                have hv2 := HV2.out
                have hpe := HPE.out
                obtain ⟨kw, hkw⟩ := HW.out
                have HKW := Lib.hid hkw
                clear hkw
                cases ng
                · have hn6 := HN5.out
                  rw [fbV32, if_neg (by decide)] at hn6
                  go_wp2_with fail
                  go_quiet (fail)
                  go_wp2_with fail
                  rw [HQ.out]
                  refine ⟨_, HWD.out _, rfl, ?_⟩
                  rw [HKW.out]
                  simp only [World.drewN_drewN]
                  exact ⟨_, rfl⟩
                · have hn6 := HN5.out
                  rw [fbV32, if_pos rfl] at hn6
                  go_wp2_with fail
                  go_quiet (fail)
                  go_wp2_with fail
                  go_quiet (fail)
                  go_wp2_with fail
                  rw [HQ.out]
                  refine ⟨_, HWD.out _, rfl, ?_⟩
                  rw [HKW.out]
                  simp only [World.drewN_drewN]
                  exact ⟨_, rfl⟩
/-- atofHex: total; its float and error hang on its arguments alone. -/
theorem atofHex_any32 (m p : Int) (ng tr : Bool) (h0 : 0 ≤ m) (h1 : m < 18446744073709551616) (hp0 : -6000000 ≤ p) (hp1 : p ≤ 6000000) :
    ∃ (v : Nat) (er : Bool), v < 4294967296 ∧ ∀ (s : ByteArray) (w : World), FltAt w 5 23 8 (-127) → Two w → Calls Tryz.prog 241 #[.string s, .pointer (some ⟨5, 0, none⟩), .int .u64 m, .int .i64 p, .bool ng, .bool tr] w fun e w' => ∃ f, Wide v f ∧ e = .returned (.tuple #[.float .f64 f, erV er]) ∧ ∃ k, w' = w.drewN k := by
  obtain ⟨Z1, hE1, hI1, hN1⟩ := ends_some (step := hx132) H1I32 (fun y => (18446744073709551616 - y.m).toNat) hx1_keep32 _ ⟨m, p + 23⟩ (Nat.le_refl _) ⟨h0, h1, by show -8000000 ≤ p + 23 + min m 67108864; omega, by show p + 23 ≤ 7000000; omega⟩
  obtain ⟨a1, a2, a3, a4⟩ := hI1
  have hYI : H2I32 ⟨if tr = true then bits .or .u64 Z1.m 1 else Z1.m, Z1.e⟩ := by
    have hy : 0 ≤ (if tr = true then bits .or .u64 Z1.m 1 else Z1.m) ∧ (if tr = true then bits .or .u64 Z1.m 1 else Z1.m) < 18446744073709551616 := by
      split
      · exact bits_in _ _ _
      · exact ⟨a1, a2⟩
    generalize (if tr = true then bits .or .u64 Z1.m 1 else Z1.m) = Y at hy
    exact ⟨hy.1, hy.2, by dsimp only; omega, by dsimp only; omega⟩
  obtain ⟨Z2, hE2, hI2, hN2⟩ := ends_some (step := hx232) H2I32 (fun y => y.m.toNat) hx2_keep32 _ ⟨if tr = true then bits .or .u64 Z1.m 1 else Z1.m, Z1.e⟩ (Nat.le_refl _) hYI
  have h2m : Z2.m < 67108864 := by
    have h := hN2
    unfold hx232 at h
    split at h
    · cases h
    · omega
  obtain ⟨b1, b2, b3, b4⟩ := hI2
  obtain ⟨Z3, hE3, hI3, hN3⟩ := ends_some (step := hx332) H3I32 (fun y => (-128 - y.e).toNat) hx3_keep32 _ Z2 (Nat.le_refl _) ⟨b1, h2m, b3, by omega⟩
  have hv : 0 ≤ hxV32 ng (hxM32 Z3.m) (hxE32 Z3.m Z3.e) := by
    unfold hxV32
    split <;> exact (fbV_in32 _ _ _).1
  obtain ⟨n, hn⟩ := nat_of _ hv
  obtain ⟨v, hv2⟩ := nat_of ((n : Int) % 4294967296) (by omega)
  obtain ⟨cv, cd, hcv, hwd⟩ := conv_wide v (by omega)
  exact ⟨v, _, by omega, fun s w hF hT => hex_run32 s m p ng tr h0 h1 hp0 hp1 Z1 Z2 Z3 hE1 ⟨a1, a2, a3, a4⟩ hN1 _ rfl hYI hE2 ⟨b1, b2, b3, b4⟩ hN2 hE3 hI3 hN3 n v hv2 cv cd hcv hwd hn w hF hT⟩
end Go.Proofs.YtnggkkdcddpjlaaGreatDoor
