/- internal/strconv.atofHex: total; its float and error hang on its arguments alone. -/
import Derived.Test.YtnggkkdcddpjlaaGreatDoorZ07
import Derived.Test.YtnggkkdcddpjlaaGreatDoorZ11
import Derived.LaidEqlPtr
namespace Go.Proofs.YtnggkkdcddpjlaaGreatDoor
open Go.RowKit
set_option maxRecDepth 100000
set_option linter.unusedVariables false
set_option linter.unusedSimpArgs false
theorem bits_or_u64 (a c : Nat) (ha : a < 18446744073709551616) (hc : c < 18446744073709551616) : bits BinOp.or IntKind.u64 (a : Int) (c : Int) = ((a ||| c : Nat) : Int) := by
  have h : bits BinOp.or IntKind.u64 (a : Int) (c : Int) = IntKind.u64.wrap ((BitVec.ofInt 64 (a : Int) ||| BitVec.ofInt 64 (c : Int)).toNat : Nat) := rfl
  rw [h, IntKind.wrap_u64, BitVec.toNat_or, BitVec.toNat_ofInt, BitVec.toNat_ofInt]
  have h1 : (((a : Int) % ((2 ^ 64 : Nat) : Int)).toNat) = a := by omega
  have h2 : (((c : Int) % ((2 ^ 64 : Nat) : Int)).toNat) = c := by omega
  rw [h1, h2]
  have h3 : a ||| c < 2 ^ 64 := Nat.or_lt_two_pow (by omega) (by omega)
  omega
theorem or_one_le (a : Nat) : a ≤ a ||| 1 ∧ a ||| 1 ≤ a + 1 := by
  have h1 : (a ||| 1) / 2 = a / 2 := by rw [Nat.or_div_two]; simp
  have h2 := Nat.div_add_mod (a ||| 1) 2
  have h3 : (a ||| 1) % 2 = 1 := by
    have := @Nat.or_mod_two_pow a 1 1
    rw [Nat.pow_one] at this
    rw [this]
    have h4 : a % 2 = 0 ∨ a % 2 = 1 := by omega
    rcases h4 with h4 | h4 <;> rw [h4] <;> rfl
  omega
/-- Halved, the bit that falls kept sticky. -/
def hs (m : Int) : Int := bits .or .u64 (m / 2) (bits .and .u64 m 1)
theorem hs_in (m : Int) (h0 : 0 ≤ m) (h1 : m < 18446744073709551616) : m / 2 ≤ hs m ∧ hs m ≤ m / 2 + 1 ∧ (m = 3 → hs m = 1) := by
  obtain ⟨n, rfl⟩ : ∃ n : Nat, m = n := ⟨m.toNat, by omega⟩
  have ha : bits .and .u64 (n : Int) 1 = ((n % 2 : Nat) : Int) := by
    have h := bits_and_u64 n 1 (by omega) (by decide)
    have e : ((1 : Nat) : Int) = 1 := rfl
    rw [e] at h
    rw [h]
    have : n &&& 1 = n % 2 := Nat.and_one_is_mod n
    rw [this]
  have hd : (n : Int) / 2 = ((n / 2 : Nat) : Int) := by omega
  unfold hs
  rw [ha, hd, bits_or_u64 _ _ (by omega) (by omega)]
  have h4 : n % 2 = 0 ∨ n % 2 = 1 := by omega
  rcases h4 with h4 | h4
  · rw [h4, Nat.or_zero]
    refine ⟨by omega, by omega, fun e => by omega⟩
  · rw [h4]
    have := or_one_le (n / 2)
    refine ⟨by omega, by omega, fun e => ?_⟩
    have e3 : n = 3 := by omega
    rw [e3]
    rfl
structure ME where
  m : Int
  e : Int
def hx1 (y : ME) : Option ME := if y.m ≠ 0 ∧ y.m < 18014398509481984 then some ⟨y.m * 2, y.e - 1⟩ else none
structure H1I (y : ME) : Prop where
  m0 : 0 ≤ y.m
  m1 : y.m < 18446744073709551616
  e0 : -8000000 ≤ y.e + min y.m 36028797018963968
  e1 : y.e ≤ 7000000
theorem hx1_keep (x y : ME) (h : H1I x) (hs : hx1 x = some y) : H1I y ∧ (18446744073709551616 - y.m).toNat < (18446744073709551616 - x.m).toNat := by
  obtain ⟨a1, a2, a3, a4⟩ := h
  unfold hx1 at hs
  split at hs
  · simp only [Option.some.injEq] at hs
    subst hs
    dsimp only
    exact ⟨⟨by dsimp only; omega, by dsimp only; omega, by dsimp only; omega, by dsimp only; omega⟩, by omega⟩
  · cases hs
def hx2 (y : ME) : Option ME := if 36028797018963968 ≤ y.m then some ⟨hs y.m, y.e + 1⟩ else none
structure H2I (y : ME) : Prop where
  m0 : 0 ≤ y.m
  m1 : y.m < 18446744073709551616
  e0 : -40000000000000000 ≤ y.e
  e1 : y.e + y.m / 18014398509481984 ≤ 8000000
theorem hx2_keep (x y : ME) (h : H2I x) (hh : hx2 x = some y) : H2I y ∧ y.m.toNat < x.m.toNat := by
  obtain ⟨a1, a2, a3, a4⟩ := h
  unfold hx2 at hh
  split at hh
  · simp only [Option.some.injEq] at hh
    subst hh
    obtain ⟨b1, b2, _⟩ := hs_in x.m a1 a2
    dsimp only
    exact ⟨⟨by dsimp only; omega, by dsimp only; omega, by dsimp only; omega, by dsimp only; omega⟩, by omega⟩
  · cases hh
def hx3 (y : ME) : Option ME := if 1 < y.m ∧ y.e < -1024 then some ⟨hs y.m, y.e + 1⟩ else none
structure H3I (y : ME) : Prop where
  m0 : 0 ≤ y.m
  m1 : y.m < 36028797018963968
  e0 : -40000000000000000 ≤ y.e
  e1 : y.e ≤ 8000000
theorem hx3_keep (x y : ME) (h : H3I x) (hh : hx3 x = some y) : H3I y ∧ (-1024 - y.e).toNat < (-1024 - x.e).toNat := by
  obtain ⟨a1, a2, a3, a4⟩ := h
  unfold hx3 at hh
  split at hh
  · simp only [Option.some.injEq] at hh
    subst hh
    obtain ⟨b1, b2, b3⟩ := hs_in x.m a1 (by omega)
    dsimp only
    exact ⟨⟨by dsimp only; omega, by dsimp only; omega, by dsimp only; omega, by dsimp only; omega⟩, by omega⟩
  · cases hh
def hxR (m : Int) : Bool := bits .or .u64 (bits .and .u64 m 3) (bits .and .u64 (m / 4) 1) == 3
def hxM (m : Int) : Int := if hxR m = true then (if m / 4 + 1 = 9007199254740992 then (m / 4 + 1) / 2 else m / 4 + 1) else m / 4
def hxE (m e : Int) : Int := if hxR m = true ∧ m / 4 + 1 = 9007199254740992 then e + 2 + 1 else e + 2
def hxD (m e : Int) : Int := if m / 4503599627370496 = 0 then -1023 else e
def hxV (ng : Bool) (m e : Int) : Int := if 1023 < hxD m e then fbV ng 4503599627370496 (1024 + 1023) else fbV ng m (hxD m e + 1023)
def hxO (m e : Int) : Bool := decide (1023 < hxD m e)
theorem u337 : Tryz.prog.underlying 337 = some (.pointer 339) := by kernel_rfl
theorem i339 : (Tryz.prog.info? 339).map (·.size) = some 3 := by kernel_rfl
/-- The two formats' blocks lie in the world as they were laid. -/
structure Two (w : World) : Prop where
  b5 : ∃ c t, w.heap[5]? = some (.cells c t (0, 0))
  b6 : ∃ c t, w.heap[6]? = some (.cells c t (0, 0))
theorem Two.keep {w w' : World} {B : Nat} (h : Two w) (hb : Below B w w') (hB : 6 < B) : Two w' := by
  obtain ⟨⟨c, t, h5⟩, ⟨d, u, h6⟩⟩ := h
  exact ⟨⟨c, t, (hb.block 5 (by omega)).trans h5⟩, ⟨d, u, (hb.block 6 (by omega)).trans h6⟩⟩
theorem ptr65 {w : World} (h : Two w) : (binOp .eql 337 (.pointer (some ⟨6, 0, none⟩)) (.pointer (some ⟨5, 0, none⟩))).run Tryz.prog w = .ok (.bool false) w := by
  obtain ⟨⟨c, t, h5⟩, ⟨d, u, h6⟩⟩ := h
  have hi := i339
  rcases h9 : Tryz.prog.info? 339 with _ | j
  · rw [h9] at hi; cases hi
  · rw [h9] at hi
    have h3 : j.size = 3 := by simpa using hi
    exact run_eql_ptr_other w u337 h9 (by rw [h3]; decide) (by decide) h6 h5
set_option maxHeartbeats 4000000 in
theorem hex_run (s : ByteArray) (m p : Int) (ng tr : Bool) (h0 : 0 ≤ m) (h1 : m < 18446744073709551616) (hp0 : -6000000 ≤ p) (hp1 : p ≤ 6000000) (Z1 Z2 Z3 : ME)
    (hE1 : Ends hx1 ⟨m, p + 52⟩ Z1) (hI1 : H1I Z1) (hN1 : hx1 Z1 = none) (Y : Int) (hY : Y = if tr = true then bits .or .u64 Z1.m 1 else Z1.m) (hYI : H2I ⟨Y, Z1.e⟩)
    (hE2 : Ends hx2 ⟨Y, Z1.e⟩ Z2) (hI2 : H2I Z2) (hN2 : hx2 Z2 = none) (hE3 : Ends hx3 Z2 Z3) (hI3 : H3I Z3) (hN3 : hx3 Z3 = none) (n : Nat) (hn : hxV ng (hxM Z3.m) (hxE Z3.m Z3.e) = n) (w : World) (hF : FltAt w 6 52 11 (-1023)) (hTw : Two w) :
    Calls Tryz.prog 241 #[.string s, .pointer (some ⟨6, 0, none⟩), .int .u64 m, .int .i64 p, .bool ng, .bool tr] w fun e w' => e = .returned (.tuple #[.float .f64 n, erV (hxO (hxM Z3.m) (hxE Z3.m Z3.e))]) ∧ ∃ k, w' = w.drewN k := by
  obtain ⟨O, hO⟩ : ∃ o, o = hxO (hxM Z3.m) (hxE Z3.m Z3.e) := ⟨_, rfl⟩
  rw [← hO]
  obtain ⟨Q, hQ⟩ : ∃ Q : Ending → World → Prop, Q = fun e w' => e = .returned (.tuple #[.float .f64 n, erV O]) ∧ ∃ k, w' = w.drewN k := ⟨_, rfl⟩
  rw [← hQ]
  have HQ := Lib.hid hQ
  have HO := Lib.hid hO
  have HN := Lib.hid hn
  have HE1 := Lib.hid hE1
  have HE2 := Lib.hid hE2
  have HE3 := Lib.hid hE3
  have HI1 := Lib.hid hI1
  have HI2 := Lib.hid hI2
  have HI3 := Lib.hid hI3
  have HN1 := Lib.hid hN1
  have HN2 := Lib.hid hN2
  have HN3 := Lib.hid hN3
  have HY := Lib.hid hY
  have HYI := Lib.hid hYI
  have hmb := hF.mb
  have heb := hF.eb
  have hbi := hF.bi
  clear hQ hO hn hE1 hE2 hE3 hI1 hI2 hI3 hN1 hN2 hN3 hY hYI hF
  go_enter Tryz.func241, Tryz.ntmps241
  go_wp2_with fail
  go_quiet (fail)
  go_upto_block 0 with fail
  have HPE : Hid (∀ k, (binOp .eql 337 (.pointer (some ⟨6, 0, none⟩)) (.pointer (some ⟨5, 0, none⟩))).run Tryz.prog ((w.drewN nq).drewN k) = .ok (.bool false) ((w.drewN nq).drewN k)) := Lib.hid (fun k => ptr65 (w := (w.drewN nq).drewN k) ⟨hTw.b5, hTw.b6⟩)
  clear hTw
  generalize hW : w.drewN nq = W at HPE
  have hmb' : W.cell? ⟨6, 0, none⟩ = some (.int .u64 52) := by rw [← hW]; exact hmb
  have heb' : W.cell? ⟨6, 1, none⟩ = some (.int .u64 11) := by rw [← hW]; exact heb
  have hbi' : W.cell? ⟨6, 2, none⟩ = some (.int .i64 (-1023)) := by rw [← hW]; exact hbi
  have HW : Hid (∃ k, W = w.drewN k) := Lib.hid ⟨nq, hW.symm⟩
  clear hW hmb heb hbi
  go_cut [2, 3] from 42 to 57 (fun sm se wr => W = wr ∧ sm = .int .u64 Z1.m ∧ se = .int .i64 Z1.e)
  case first =>
    go_wp2_with fail
    go_loop [2, 3] (fun sm se => ∃ y : ME, H1I y ∧ Ends hx1 y Z1 ∧ sm = .int .u64 y.m ∧ se = .int .i64 y.e) (fun sm _ => (18446744073709551616 - intOf sm).toNat)
    case atStart => exact ⟨⟨m, p + 52⟩, ⟨h0, h1, by show -8000000 ≤ p + 52 + min m 36028797018963968; omega, by show p + 52 ≤ 7000000; omega⟩, HE1.out, rfl, rfl⟩
    case round =>
      obtain ⟨⟨m, e⟩, hI, hE, rfl, rfl⟩ := hrel
      obtain ⟨a1, a2, a3, a4⟩ := hI
      dsimp only at a1 a2 a3 a4
      have HEx := Lib.hid hE
      have HIx : Hid (H1I ⟨m, e⟩) := Lib.hid ⟨a1, a2, a3, a4⟩
      clear hE
      by_cases hc : m ≠ 0 ∧ m < 18014398509481984
      · have hst : hx1 ⟨m, e⟩ = some ⟨m * 2, e - 1⟩ := by unfold hx1; rw [if_pos hc]
        have HST := Lib.hid hst
        obtain ⟨hc1, hc2⟩ := hc
        have b1 : (m != 0) = true := by simpa using hc1
        have b2 : (m / 18014398509481984 == 0) = true := by simp; omega
        clear hst hc1
        go_wp2_with fail
        exact ⟨⟨⟨m * 2, e - 1⟩, (hx1_keep _ _ HIx.out HST.out).1, HEx.out.next HST.out, rfl, rfl⟩, by have h9 := (hx1_keep _ _ HIx.out HST.out).2; simpa [intOf] using h9⟩
      · have hz := HEx.out.done (by unfold hx1; rw [if_neg hc])
        have HZ := Lib.hid hz
        clear hz
        by_cases hm0 : m = 0
        · have b1 : (m != 0) = false := by simpa using hm0
          clear hc hm0
          go_wp2_with fail
          go_meet
          rw [HZ.out]
          exact ⟨rfl, rfl, rfl⟩
        · have b1 : (m != 0) = true := by simpa using hm0
          have b2 : (m / 18014398509481984 == 0) = false := by simp; omega
          clear hc hm0
          go_wp2_with fail
          go_meet
          rw [HZ.out]
          exact ⟨rfl, rfl, rfl⟩
  case rest =>
    obtain ⟨rfl, rfl, rfl⟩ := hcut
    obtain ⟨z1a, z1b, z1c, z1d⟩ := HI1.out
    go_upto_if 58 with fail
    go_cut [2] from 59 to 60 (fun sm wr => W = wr ∧ sm = .int .u64 Y)
    case first =>
      cases tr
      · have hy : Y = Z1.m := HY.out
        have HYy := Lib.hid hy
        clear hy
        go_wp2_with fail
        go_meet
        exact ⟨rfl, by rw [HYy.out]⟩
      · have hy : Y = bits .or .u64 Z1.m 1 := HY.out
        have HYy := Lib.hid hy
        clear hy
        go_wp2_with fail
        go_meet
        exact ⟨rfl, by rw [HYy.out]⟩
    case rest =>
      obtain ⟨rfl, rfl⟩ := hcut
      obtain ⟨ya, yb, yc, yd⟩ := HYI.out
      dsimp only at ya yb yc yd
      go_upto_block 2 with fail
      go_cut [2, 3] from 61 to 76 (fun sm se wr => W = wr ∧ sm = .int .u64 Z2.m ∧ se = .int .i64 Z2.e)
      case first =>
        go_wp2_with fail
        go_loop [2, 3] (fun sm se => ∃ y : ME, H2I y ∧ Ends hx2 y Z2 ∧ sm = .int .u64 y.m ∧ se = .int .i64 y.e) (fun sm _ => (intOf sm).toNat)
        case atStart => exact ⟨⟨Y, Z1.e⟩, HYI.out, HE2.out, rfl, rfl⟩
        case round =>
          obtain ⟨⟨m, e⟩, hI, hE, rfl, rfl⟩ := hrel
          obtain ⟨a1, a2, a3, a4⟩ := hI
          dsimp only at a1 a2 a3 a4
          have HEx := Lib.hid hE
          have HIx : Hid (H2I ⟨m, e⟩) := Lib.hid ⟨a1, a2, a3, a4⟩
          clear hE
          by_cases hc : 36028797018963968 ≤ m
          · have hst : hx2 ⟨m, e⟩ = some ⟨hs m, e + 1⟩ := by unfold hx2; rw [if_pos hc]
            have HST := Lib.hid hst
            have b2 : (m / 36028797018963968 != 0) = true := by simp; omega
            clear hst
            go_wp2_with fail
            exact ⟨⟨⟨hs m, e + 1⟩, (hx2_keep _ _ HIx.out HST.out).1, HEx.out.next HST.out, rfl, rfl⟩, (hx2_keep _ _ HIx.out HST.out).2⟩
          · have hz := HEx.out.done (by unfold hx2; rw [if_neg hc])
            have HZ := Lib.hid hz
            clear hz
            have b2 : (m / 36028797018963968 != 0) = false := by simp; omega
            go_wp2_with fail
            go_meet
            rw [HZ.out]
            exact ⟨rfl, rfl, rfl⟩
      case rest =>
        obtain ⟨rfl, rfl, rfl⟩ := hcut
        obtain ⟨z2a, z2b, z2c, z2d⟩ := HI2.out
        have hz2m : Z2.m < 36028797018963968 := by
          have h := HN2.out
          unfold hx2 at h
          split at h
          · cases h
          · omega
        go_upto_block 4 with fail
        go_cut [2, 3] from 77 to 91 (fun sm se wr => W = wr ∧ sm = .int .u64 Z3.m ∧ se = .int .i64 Z3.e)
        case first =>
          go_wp2_with fail
          go_loop [2, 3] (fun sm se => ∃ y : ME, H3I y ∧ Ends hx3 y Z3 ∧ sm = .int .u64 y.m ∧ se = .int .i64 y.e) (fun _ se => (-1024 - intOf se).toNat)
          case atStart => exact ⟨Z2, ⟨z2a, hz2m, z2c, by omega⟩, HE3.out, rfl, rfl⟩
          case round =>
            obtain ⟨⟨m, e⟩, hI, hE, rfl, rfl⟩ := hrel
            obtain ⟨a1, a2, a3, a4⟩ := hI
            dsimp only at a1 a2 a3 a4
            have HEx := Lib.hid hE
            have HIx : Hid (H3I ⟨m, e⟩) := Lib.hid ⟨a1, a2, a3, a4⟩
            clear hE
            by_cases hc : 1 < m ∧ e < -1024
            · have hst : hx3 ⟨m, e⟩ = some ⟨hs m, e + 1⟩ := by unfold hx3; rw [if_pos hc]
              have HST := Lib.hid hst
              obtain ⟨hc1, hc2⟩ := hc
              have b1 : decide (1 < m) = true := by simpa using hc1
              have b2 : decide (e < -1024) = true := by simpa using hc2
              clear hst
              go_wp2_with fail
              exact ⟨⟨⟨hs m, e + 1⟩, (hx3_keep _ _ HIx.out HST.out).1, HEx.out.next HST.out, rfl, rfl⟩, (hx3_keep _ _ HIx.out HST.out).2⟩
            · have hz := HEx.out.done (by unfold hx3; rw [if_neg hc])
              have HZ := Lib.hid hz
              clear hz
              by_cases hm1 : 1 < m
              · have b1 : decide (1 < m) = true := by simpa using hm1
                have b2 : decide (e < -1024) = false := by simp; omega
                clear hc
                go_wp2_with fail
                go_meet
                rw [HZ.out]
                exact ⟨rfl, rfl, rfl⟩
              · have b1 : decide (1 < m) = false := by simpa using hm1
                clear hc
                go_wp2_with fail
                go_meet
                rw [HZ.out]
                exact ⟨rfl, rfl, rfl⟩
        case rest =>
          obtain ⟨rfl, rfl, rfl⟩ := hcut
          obtain ⟨z3a, z3b, z3c, z3d⟩ := HI3.out
          obtain ⟨zm, ze⟩ := Z3
          dsimp only at z3a z3b z3c z3d HO HN
          obtain ⟨rn, hrn⟩ : ∃ b, b = hxR zm := ⟨_, rfl⟩
          have hrn' : (bits .or .u64 (bits .and .u64 zm 3) (bits .and .u64 (zm / 4) 1) == 3) = rn := hrn.symm
          have HRn := Lib.hid hrn
          obtain ⟨M3, hM3⟩ : ∃ M, M = hxM zm := ⟨_, rfl⟩
          obtain ⟨E3, hE3⟩ : ∃ E, E = hxE zm ze := ⟨_, rfl⟩
          rw [← hM3, ← hE3] at HO HN
          have HM3 : Hid (M3 = if rn = true then (if zm / 4 + 1 = 9007199254740992 then (zm / 4 + 1) / 2 else zm / 4 + 1) else zm / 4) := Lib.hid (by rw [hM3, hrn]; rfl)
          have HE3' : Hid (E3 = if rn = true ∧ zm / 4 + 1 = 9007199254740992 then ze + 2 + 1 else ze + 2) := Lib.hid (by rw [hE3, hrn]; rfl)
          have m3a : 0 ≤ M3 := by rw [hM3]; unfold hxM; (repeat' split) <;> omega
          have m3b : M3 < 18014398509481984 := by rw [hM3]; unfold hxM; (repeat' split) <;> omega
          have e3a : -40000000000000000 ≤ E3 := by rw [hE3]; unfold hxE; split <;> omega
          have e3b : E3 ≤ 9000000 := by rw [hE3]; unfold hxE; split <;> omega
          clear hrn hM3 hE3
          go_upto_if 103 with fail
          clear hrn'
          go_cut [2, 3] from 104 to 117 (fun sm se wr => W = wr ∧ sm = .int .u64 M3 ∧ se = .int .i64 E3)
          case first =>
            cases rn
            · have hm : M3 = zm / 4 := HM3.out
              have he : E3 = ze + 2 := HE3'.out
              have HA := Lib.hid hm
              have HB := Lib.hid he
              clear hm he
              go_wp2_with fail
              go_meet
              exact ⟨rfl, by rw [HA.out], by rw [HB.out]⟩
            · by_cases h53 : zm / 4 + 1 = 9007199254740992
              · have hm : M3 = (zm / 4 + 1) / 2 := by rw [HM3.out, if_pos rfl, if_pos h53]
                have he : E3 = ze + 2 + 1 := by rw [HE3'.out, if_pos ⟨rfl, h53⟩]
                have HA := Lib.hid hm
                have HB := Lib.hid he
                have b1 : (zm / 4 + 1 == 9007199254740992) = true := by simpa using h53
                clear hm he h53
                go_wp2_with fail
                go_meet
                exact ⟨rfl, by rw [HA.out], by rw [HB.out]⟩
              · have hm : M3 = zm / 4 + 1 := by rw [HM3.out, if_pos rfl, if_neg h53]
                have he : E3 = ze + 2 := by rw [HE3'.out, if_neg (fun h => h53 h.2)]
                have HA := Lib.hid hm
                have HB := Lib.hid he
                have b1 : (zm / 4 + 1 == 9007199254740992) = false := by simpa using h53
                clear hm he h53
                go_wp2_with fail
                go_meet
                exact ⟨rfl, by rw [HA.out], by rw [HB.out]⟩
          case rest =>
            obtain ⟨rfl, rfl, rfl⟩ := hcut
            obtain ⟨E4, hE4⟩ : ∃ E, E = hxD M3 E3 := ⟨_, rfl⟩
            have e4a : -40000000000000000 ≤ E4 := by rw [hE4]; unfold hxD; split <;> omega
            have e4b : E4 ≤ 9000000 := by rw [hE4]; unfold hxD; split <;> omega
            have HE4 : Hid (E4 = if M3 / 4503599627370496 = 0 then -1023 else E3) := Lib.hid hE4
            have HO' : Hid (O = decide (1023 < E4)) := Lib.hid (by rw [HO.out, hE4]; rfl)
            have HN' : Hid ((if 1023 < E4 then fbV ng 4503599627370496 (1024 + 1023) else fbV ng M3 (E4 + 1023)) = n) := Lib.hid (by rw [hE4]; exact HN.out)
            clear hE4 HO HN
            go_upto_if 124 with fail
            go_cut [3] from 124 to 128 (fun se wr => W = wr ∧ se = .int .i64 E4)
            case first =>
              by_cases hz : M3 / 4503599627370496 = 0
              · have he : E4 = -1023 := by rw [HE4.out, if_pos hz]
                have HA := Lib.hid he
                have b1 : (M3 / 4503599627370496 == 0) = true := by simpa using hz
                clear he hz
                go_wp2_with fail
                go_meet
                exact ⟨rfl, by rw [HA.out]⟩
              · have he : E4 = E3 := by rw [HE4.out, if_neg hz]
                have HA := Lib.hid he
                have b1 : (M3 / 4503599627370496 == 0) = false := by simpa using hz
                clear he hz
                go_wp2_with fail
                go_meet
                exact ⟨rfl, by rw [HA.out]⟩
            case rest =>
              obtain ⟨rfl, rfl⟩ := hcut
              obtain ⟨M5, hM5⟩ : ∃ M : Int, M = if 1023 < E4 then 4503599627370496 else M3 := ⟨_, rfl⟩
              obtain ⟨E5, hE5⟩ : ∃ E : Int, E = if 1023 < E4 then 1024 else E4 := ⟨_, rfl⟩
              have m5a : 0 ≤ M5 := by rw [hM5]; split <;> omega
              have m5b : M5 < 18014398509481984 := by rw [hM5]; split <;> omega
              have e5a : -40000000000000000 ≤ E5 := by rw [hE5]; split <;> omega
              have e5b : E5 ≤ 9000000 := by rw [hE5]; split <;> omega
              have hn5 : fbV ng M5 (E5 + 1023) = n := by
                rw [← HN'.out, hM5, hE5]
                split <;> rfl
              have HM5 := Lib.hid hM5
              have HE5 := Lib.hid hE5
              clear hM5 hE5 HN'
              have HN5 := Lib.hid hn5
              clear hn5
              go_upto_if 131 with fail
              go_cut [2, 3, 17] from 131 to 139 (fun sm se sr wr => W = wr ∧ sm = .int .u64 M5 ∧ se = .int .i64 E5 ∧ sr = erV O)
              case first =>
                by_cases ho : 1023 < E4
                · have hm : M5 = 4503599627370496 := by rw [HM5.out, if_pos ho]
                  have he : E5 = 1024 := by rw [HE5.out, if_pos ho]
                  have hoo : O = true := by rw [HO'.out]; simpa using ho
                  have HA := Lib.hid hm
                  have HB := Lib.hid he
                  have HC := Lib.hid hoo
                  have b1 : decide (1023 < E4) = true := by simpa using ho
                  clear hm he hoo
                  go_wp2_with fail
                  go_meet
                  exact ⟨rfl, by rw [HA.out], by rw [HB.out], by rw [HC.out]; rfl⟩
                · have hm : M5 = M3 := by rw [HM5.out, if_neg ho]
                  have he : E5 = E4 := by rw [HE5.out, if_neg ho]
                  have hoo : O = false := by rw [HO'.out]; simpa using ho
                  have HA := Lib.hid hm
                  have HB := Lib.hid he
                  have HC := Lib.hid hoo
                  have b1 : decide (1023 < E4) = false := by simpa using ho
                  clear hm he hoo
                  go_wp2_with fail
                  go_meet
                  exact ⟨rfl, by rw [HA.out], by rw [HB.out], by rw [HC.out]; rfl⟩
              case rest =>
                obtain ⟨rfl, rfl, rfl, rfl⟩ := hcut
                have hfb := fun w => frombits64 n w
                have hpe := HPE.out
                obtain ⟨kw, hkw⟩ := HW.out
                have HKW := Lib.hid hkw
                clear hkw
                cases ng
                · have hn6 := HN5.out
                  rw [fbV, if_neg (by decide)] at hn6
                  go_wp2_with fail
                  go_quiet (fail)
                  go_wp2_with fail
                  rw [HQ.out]
                  refine ⟨rfl, ?_⟩
                  rw [HKW.out, World.drewN_drewN]
                  exact ⟨_, rfl⟩
                · have hn6 := HN5.out
                  rw [fbV, if_pos rfl] at hn6
                  go_wp2_with fail
                  go_quiet (fail)
                  go_wp2_with fail
                  go_quiet (fail)
                  go_wp2_with fail
                  rw [HQ.out]
                  refine ⟨rfl, ?_⟩
                  rw [HKW.out, World.drewN_drewN]
                  exact ⟨_, rfl⟩
end Go.Proofs.YtnggkkdcddpjlaaGreatDoor
