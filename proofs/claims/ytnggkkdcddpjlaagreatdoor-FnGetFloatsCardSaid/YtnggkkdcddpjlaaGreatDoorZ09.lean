/- internal/strconv's scaling: the small functions. -/
import Derived.Test.YtnggkkdcddpjlaaGreatDoorZ01
import Derived.Deep.MidRow
import Derived.Deep.RegionHeld3
import Derived.Deep.AppendLies
import Derived.BigGuardPart
import Derived.Laws.CopyOwn
import Derived.StillTailTactics
import GoSem.PinnedTables
namespace Go.Proofs.YtnggkkdcddpjlaaGreatDoor
open Go.RowKit
set_option maxRecDepth 100000
set_option linter.unusedVariables false
theorem nudge_run (x d : Int) (w : World) : Calls Tryz.prog 225 #[.int .u64 x, .int .i64 d] w fun e w' => e = .returned (.int .u64 (IntKind.u64.wrap (x + IntKind.u64.wrap d))) ∧ w' = w := by
  go_enter Tryz.func225, Tryz.ntmps225
  go_wp2
  go_ret
  exact ⟨rfl, rfl⟩
theorem ceil_run (x : Int) (w : World) : Calls Tryz.prog 226 #[.int .u64 x] w fun e w' => e = .returned (.int .u64 (IntKind.u64.wrap (x + 3) / 4)) ∧ w' = w := by
  go_enter Tryz.func226, Tryz.ntmps226
  go_wp2
  go_ret
  exact ⟨rfl, rfl⟩
theorem floor_run (x : Int) (w : World) : Calls Tryz.prog 227 #[.int .u64 x] w fun e w' => e = .returned (.int .u64 (IntKind.u64.wrap x / 4)) ∧ w' = w := by
  go_enter Tryz.func227, Tryz.ntmps227
  go_wp2
  go_ret
  exact ⟨rfl, rfl⟩
def rnd (x : Int) : Int := IntKind.u64.wrap (IntKind.u64.wrap (x + 1) + bits BinOp.and IntKind.u64 (x / 4) 1) / 4
theorem round_run (x : Int) (w : World) : Calls Tryz.prog 228 #[.int .u64 x] w fun e w' => e = .returned (.int .u64 (rnd x)) ∧ w' = w := by
  unfold rnd
  go_enter Tryz.func228, Tryz.ntmps228
  go_wp2
  go_ret
  exact ⟨rfl, rfl⟩
theorem skewed_run (x : Int) (h0 : -2000 ≤ x) (h1 : x ≤ 2000) (w : World) : Calls Tryz.prog 221 #[.int .i64 x] w fun e w' => e = .returned (.int .i64 ((x * 631305 - 261663) / 2097152)) ∧ w' = w := by
  have e1 : wrap64 (x * 631305) = x * 631305 := IntWalk.wrap64_in _ (by omega)
  have e2 : wrap64 (x * 631305 - 261663) = x * 631305 - 261663 := IntWalk.wrap64_in _ (by omega)
  go_enter Tryz.func221, Tryz.ntmps221
  go_wp2
  go_ret
  exact ⟨rfl, rfl⟩
theorem l10_run (x : Int) (h0 : -2000 ≤ x) (h1 : x ≤ 2000) (w : World) : Calls Tryz.prog 204 #[.int .i64 x] w fun e w' => e = .returned (.int .i64 (x * 78913 / 262144)) ∧ w' = w := by
  have e1 : wrap64 (x * 78913) = x * 78913 := IntWalk.wrap64_in _ (by omega)
  go_enter Tryz.func204, Tryz.ntmps204
  go_wp2
  go_ret
  exact ⟨rfl, rfl⟩
theorem l2_run (x : Int) (h0 : -2000 ≤ x) (h1 : x ≤ 2000) (w : World) : Calls Tryz.prog 223 #[.int .i64 x] w fun e w' => e = .returned (.int .i64 (x * 108853 / 32768)) ∧ w' = w := by
  have e1 : wrap64 (x * 108853) = x * 108853 := IntWalk.wrap64_in _ (by omega)
  go_enter Tryz.func223, Tryz.ntmps223
  go_wp2
  go_ret
  exact ⟨rfl, rfl⟩
def b2 (b : Bool) : Int := if b then 1 else 0
theorem bool2_u64 (b : Bool) (w : World) : Calls Tryz.prog 248 #[.bool b] w fun e w' => e = .returned (.int .u64 (b2 b)) ∧ w' = w := by
  cases b
  all_goals
    go_enter Tryz.func248, Tryz.ntmps248
    go_wp2
    go_ret
    exact ⟨rfl, rfl⟩
def W64 (x : Nat) : Prop := x < 18446744073709551616
def mulH (x y : Nat) : Int := ((x * y / 18446744073709551616 : Nat) : Int)
def mulL (x y : Nat) : Int := ((x * y % 18446744073709551616 : Nat) : Int)
theorem mul64 (x y : Nat) (hx : W64 x) (hy : W64 y) (w : World) : Calls Tryz.prog 252 #[.int .u64 x, .int .u64 y] w fun e w' => e = .returned (.tuple #[.int .u64 (mulH x y), .int .u64 (mulL x y)]) ∧ w' = w :=
  Tryz.bits_Mul64 x y hx hy w
theorem mul64_in (x y : Nat) (hx : W64 x) (hy : W64 y) : 0 ≤ mulH x y ∧ mulH x y < 18446744073709551616 ∧ 0 ≤ mulL x y ∧ mulL x y < 18446744073709551616 := by
  have h1 : x * y / 18446744073709551616 < 18446744073709551616 := by
    rw [Nat.div_lt_iff_lt_mul (by omega)]
    exact Nat.mul_lt_mul'' hx hy
  have h2 : x * y % 18446744073709551616 < 18446744073709551616 := Nat.mod_lt _ (by omega)
  unfold mulH mulL
  omega
theorem and63 (s : Int) : bits BinOp.and IntKind.i64 s 63 = s % 64 := by
  have h127 : (BitVec.ofInt 64 63).toNat = 2 ^ 6 - 1 := by decide
  have key : (BitVec.ofInt 64 s &&& BitVec.ofInt 64 63).toNat = (s % ((2 ^ 64 : Nat) : Int)).toNat % 2 ^ 6 := by
    rw [BitVec.toNat_and, BitVec.toNat_ofInt, h127, Nat.and_two_pow_sub_one_eq_mod]
  show IntKind.i64.wrap ((BitVec.ofInt 64 s &&& BitVec.ofInt 64 63).toNat : Nat) = s % 64
  rw [key, IntKind.wrap_i64]
  omega
theorem or_in (x y : Int) : 0 ≤ bits BinOp.or IntKind.u64 x y ∧ bits BinOp.or IntKind.u64 x y < 18446744073709551616 := by
  have h : ∀ z : Int, 0 ≤ IntKind.u64.wrap z ∧ IntKind.u64.wrap z < 18446744073709551616 := fun z => by rw [IntKind.wrap_u64]; omega
  exact h _
/-- What uscale makes of a product: its upper word, the lower one, the upper word of the second product; the count of the shift. -/
def usc (A B C k : Int) : Int :=
  if (IntKind.u64.wrap (A / 2 ^ k.toNat * 2 ^ k.toNat) != A) = true then bits .or .u64 (A / 2 ^ k.toNat) 1
  else bits .or .u64 (IntKind.u64.wrap (A - b2 (decide (B < C))) / 2 ^ k.toNat) (b2 (decide (1 < IntKind.u64.wrap (B - C))))
theorem usc_in (A B C k : Int) : 0 ≤ usc A B C k ∧ usc A B C k < 18446744073709551616 := by
  unfold usc
  split <;> exact or_in _ _
theorem uscale_run (x hi lo b : Nat) (s : Int) (w : World) (hx : W64 x) (hhi : W64 hi) (hlo : W64 lo)
    (c0 : w.cell? ⟨b, 0, none⟩ = some (.int .u64 hi)) (c1 : w.cell? ⟨b, 1, none⟩ = some (.int .u64 lo)) (c2 : w.cell? ⟨b, 2, none⟩ = some (.int .i64 s)) :
    Calls Tryz.prog 224 #[.int .u64 x, .pointer (some ⟨b, 0, none⟩)] w fun e w' => e = .returned (.int .u64 (usc (mulH x hi) (mulL x hi) (mulH x lo) (s % 64))) ∧ Below w.heap.size w w' := by
  obtain ⟨hA0, hA1, hB0, hB1⟩ := mul64_in x hi hx hhi
  obtain ⟨hC0, hC1, hD0, hD1⟩ := mul64_in x lo hx hlo
  have HM := fun y hy w => mul64 x y hx hy w
  generalize mulH x = mh at *
  generalize mulL x = ml at *
  have hk : bits BinOp.and IntKind.i64 s 63 = s % 64 := and63 s
  have hk0 : 0 ≤ s % 64 := by omega
  have hk1 : s % 64 ≤ 63 := by omega
  generalize s % 64 = k at *
  obtain ⟨U, hU⟩ : ∃ U, U = usc (mh hi) (ml hi) (mh lo) k := ⟨_, rfl⟩
  rw [← hU]
  have HU := Lib.hid hU
  have HM := Lib.hid HM
  have HW := Lib.hid (And.intro hhi hlo)
  clear hx hhi hlo hU hD0 hD1
  go_enter Tryz.func224, Tryz.ntmps224
  go_wp2_with (first | (go_at_call 252; refine (HM.out _ (by first | exact HW.out.1 | exact HW.out.2) _).mono ?_; rintro r w1 ⟨rfl, rfl⟩) | (go_at_call 248; refine (bool2_u64 _ _).mono ?_; rintro r w1 ⟨rfl, rfl⟩))
  all_goals first
    | (go_ret
       refine ⟨?_, Below.refl _ _⟩
       rw [HU.out]
       unfold usc
       rw [if_pos (by assumption)]
       rfl)
    | (go_region_held3 (fun w' => True) (trivial) (first | (go_at_call 248; refine (bool2_u64 _ _).mono ?_; rintro r w1 ⟨rfl, rfl⟩))
       all_goals
         go_wp2
         all_goals
           go_ret
           refine ⟨?_, (Below.refl _ _).drew⟩
           rw [HU.out]
           unfold usc
           rw [if_neg (by simp_all)]
           rfl)
/-- The table of powers of ten. -/
@[irreducible] def pHi (i : Nat) : Nat := (Pinned.pow10Rows.getD i (0, 0)).1
@[irreducible] def pLo (i : Nat) : Nat := (Pinned.pow10Rows.getD i (0, 0)).2
structure PowAt (w : World) : Prop where
  hi : ∀ i, i < 696 → w.cell? ⟨7, i * 2, none⟩ = some (.int .u64 (pHi i))
  lo : ∀ i, i < 696 → w.cell? ⟨7, i * 2 + 1, none⟩ = some (.int .u64 (pLo i))
theorem PowAt.keep {w w' : World} {B : Nat} (h : PowAt w) (hb : Below B w w') (hB : 8 ≤ B) : PowAt w' :=
  ⟨fun i hi => (hb.cell (p := ⟨7, i * 2, none⟩) (by show 7 < B; omega)).trans (h.hi i hi), fun i hi => (hb.cell (p := ⟨7, i * 2 + 1, none⟩) (by show 7 < B; omega)).trans (h.lo i hi)⟩
theorem prescale_run (b : Nat) (v0 v1 v2 : Value) (e p lp : Int) (w : World) (hp : PowAt w) (hp0 : -348 ≤ p) (hp1 : p ≤ 347) (he0 : -2000 ≤ e) (he1 : e ≤ 2000) (hl0 : -2000 ≤ lp) (hl1 : lp ≤ 2000) (hb : 8 ≤ b)
    (c0 : w.cell? ⟨b, 0, none⟩ = some v0) (c1 : w.cell? ⟨b, 1, none⟩ = some v1) (c2 : w.cell? ⟨b, 2, none⟩ = some v2)
    (f0 : w.frozen? ⟨b, 0, none⟩ = false) (f1 : w.frozen? ⟨b, 1, none⟩ = false) (f2 : w.frozen? ⟨b, 2, none⟩ = false) :
    Calls Tryz.prog 222 #[.pointer (some ⟨b, 0, none⟩), .int .i64 e, .int .i64 p, .int .i64 lp] w fun r w' => r = .returned (.tuple #[]) ∧ Below b w w' ∧
      w'.cell? ⟨b, 0, none⟩ = some (.int .u64 (pHi (p + 348).toNat)) ∧ w'.cell? ⟨b, 1, none⟩ = some (.int .u64 (pLo (p + 348).toNat)) ∧ w'.cell? ⟨b, 2, none⟩ = some (.int .i64 (-(e + lp + 3))) := by
  obtain ⟨i, hi⟩ : ∃ i : Nat, p = (i : Int) - 348 := ⟨(p + 348).toNat, by omega⟩
  subst hi
  have hi1 : i < 696 := by omega
  have h1 := hp.hi i hi1
  have h2 := hp.lo i hi1
  have e1 : ((i : Int) - 348 + 348).toNat = i := by omega
  rw [e1]
  have hne : b ≠ 7 := by omega
  have hi2 : (i : Int) < 696 := by omega
  have hi3 : (0 : Int) ≤ i := by omega
  generalize pHi i = ph at *
  generalize pLo i = pl at *
  clear hp hp0 hp1 hi1 e1
  obtain ⟨Q, hQ⟩ : ∃ Q : Ending → World → Prop, Q = fun r w' => r = .returned (.tuple #[]) ∧ Below b w w' ∧
      w'.cell? ⟨b, 0, none⟩ = some (.int .u64 ph) ∧ w'.cell? ⟨b, 1, none⟩ = some (.int .u64 pl) ∧ w'.cell? ⟨b, 2, none⟩ = some (.int .i64 (-(e + lp + 3))) := ⟨_, rfl⟩
  rw [← hQ]
  have HQ := Lib.hid hQ
  clear hQ
  go_enter Tryz.func222, Tryz.ntmps222
  go_wp2_with fail
  go_end0
  rw [HQ.out]
  have q {o : Nat} : b ≤ (⟨b, o, none⟩ : Addr).block := Nat.le_refl _
  refine ⟨rfl, (((Below.refl b w).setCell q _).setCell q _).setCell q _, ?_, ?_, ?_⟩
  · rw [World.cell?_setCell_other _ _ _ _ (by simp), World.cell?_setCell_other _ _ _ _ (by simp), World.cell?_setCell_same _ _ _ c0]
  · rw [World.cell?_setCell_other _ _ _ _ (by simp), World.cell?_setCell_same _ _ _ (by rw [World.cell?_setCell_other _ _ _ _ (by simp)]; exact c1)]
  · rw [World.cell?_setCell_same _ _ _ (by rw [World.cell?_setCell_other _ _ _ _ (by simp), World.cell?_setCell_other _ _ _ _ (by simp)]; exact c2)]
end Go.Proofs.YtnggkkdcddpjlaaGreatDoor
