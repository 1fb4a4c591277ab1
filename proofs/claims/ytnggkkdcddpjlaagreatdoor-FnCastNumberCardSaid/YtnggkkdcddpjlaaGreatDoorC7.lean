/- castPairs: what it leaves of the entries. -/
import Derived.Test.YtnggkkdcddpjlaaGreatDoorC6
import Derived.Deep.MidRow
import Derived.Deep.RegionHeld3
import Derived.Deep.AppendLies
namespace Go.Proofs.YtnggkkdcddpjlaaGreatDoor
open Go.RowKit
set_option maxRecDepth 100000
set_option linter.unusedVariables false
structure Raw where
  key : ByteArray
  k : Int
  i : Int
  u : Int
  f : Nat
  s : ByteArray
  l : Value
  m : Value
abbrev Raw.cells (e : Raw) : List Value := [.string e.key, .int .i64 e.k, .int .i64 e.i, .int .u64 e.u, .float .f64 e.f, .string e.s, e.l, e.m]
/-- The cells of an entry whose value holds no lists. -/
abbrev Ent.cells (e : Ent) : List Value := [.string e.key, .int .i64 e.k, .int .i64 e.i, .int .u64 e.u, .float .f64 e.f, .string e.s, .slice none 0 0, .slice none 0 0]
/-- What castPairs makes of an entry. -/
def Raw.cut (e : Raw) : Ent := ⟨cutS e.key, cutK e.k, e.i, e.u, cutF 4881901996069617664 e.f, cutS e.s⟩
def flat (es : Nat → Ent) (n : Nat) : List Value := ((List.range n).map fun j => (es j).cells).flatten
theorem flat_succ (es : Nat → Ent) (n : Nat) : flat es (n + 1) = flat es n ++ (es n).cells := by simp [flat, List.range_succ]
theorem info30 : (Tryz.prog.info? 30).map (fun i => (i.size, i.bytes, i.zero.map (·.cells.size))) = some (8, 112, some 8) := by kernel_rfl
theorem held_on {w w2 : World} {xb : Nat} {o : Obj} (h : w.heap[xb]? = some o) (hb : Below w.heap.size w w2) : w2.heap[xb]? = some o := by
  rw [hb.block xb (Array.getElem?_eq_some_iff.1 h).1]; exact h
theorem held_grown {w w2 : World} {xb : Nat} {o : Obj} {row : Option Nat} (h : w.heap[xb]? = some o) (hg : w.grownBy w2 row) (hne : some xb ≠ row) : w2.heap[xb]? = some o := by
  rw [hg.block xb (Array.getElem?_eq_some_iff.1 h).1 hne]; exact h
theorem owns_on {w w2 : World} {base : Nat} {e : TypeId} {size : Nat} {v : Value} {n : Nat} {xs : List Value} (h : w.ownsRow base e size v n xs) (hb : Below w.heap.size w w2) : w2.ownsRow base e size v n xs :=
  h.kept (row := none) ⟨hb.os, hb.tape, hb.output, hb.size, fun k hk _ => hb.block k hk⟩ (by cases hv : v.ownBlock <;> simp)
theorem owns_drew {w : World} {base : Nat} {e : TypeId} {size : Nat} {v : Value} {n : Nat} {xs : List Value} (h : w.ownsRow base e size v n xs) (m : Nat) : (w.drewN m).ownsRow base e size v n xs := h
theorem size30 : (Tryz.prog.info? 30).map (·.size) = some 8 := by kernel_rfl
theorem pairs_some (b off len cap : Nat) (es : Nat → Raw) (w : World) (hlc : len ≤ cap) (h0 : 0 < len) (hl : len ≤ 9223372036854775807) (hbl : b < w.heap.size) (hc : ∀ j, j < len → w.rangeAt b (off + j * 8) (es j).cells)
    (hone : ∀ j, j < len → (es j).l.oneCell' = true ∧ (es j).m.oneCell' = true) (h11 : Good w) :
    Calls Tryz.prog 8 #[.slice (some ⟨b, off, none⟩) len cap] w fun r w' => ∃ v, r = .returned v ∧ Below w.heap.size w w' ∧ w'.ownsRow w.heap.size 30 8 v (min len 60) (flat (fun j => (es j).cut) (min len 60)) := by
  obtain ⟨n, hn⟩ : ∃ n, n = min len 60 := ⟨_, rfl⟩
  rw [← hn]
  have e1 : min (len : Int) 60 = (n : Int) := by omega
  have hn0 : 0 < n := by omega
  have hn1 : n ≤ len := by omega
  have hn2 : n ≤ 60 := by omega
  clear hn
  obtain ⟨i0, hi0, z0, hz0, hs0, hb0, hzs⟩ : ∃ i0, Tryz.prog.info? 30 = some i0 ∧ ∃ z0, i0.zero = some z0 ∧ i0.size = 8 ∧ i0.bytes = 112 ∧ z0.cells.size = 8 := by
    have h := info30
    cases hh : Tryz.prog.info? 30 with
    | none => rw [hh] at h; cases h
    | some i =>
      rw [hh] at h
      simp only [Option.map_some, Option.some.injEq, Prod.mk.injEq] at h
      obtain ⟨h1, h2, h3⟩ := h
      cases hz : i.zero with
      | none => rw [hz] at h3; cases h3
      | some z => rw [hz] at h3; exact ⟨i, rfl, z, hz, h1, h2, Option.some.inj h3⟩
  have HC := Lib.hid hc
  have HO := Lib.hid hone
  have HG := Lib.hid h11
  have HB := Lib.hid hbl
  clear hc hone h11 hbl
  obtain ⟨cut, hcut⟩ : ∃ cut, cut = fun j => (es j).cut := ⟨_, rfl⟩
  rw [← hcut]
  have HCUT := Lib.hid hcut
  clear hcut
  go_enter Tryz.func8, Tryz.ntmps8
  go_wp2
  clear e1
  go_loopw [3, 12] (fun v i wr => ∃ k : Nat, k ≤ n ∧ i = .int .i64 k ∧ Below w.heap.size w wr ∧ wr.ownsRow w.heap.size 30 8 v k (flat cut k)) (fun _ i _ => n - (intOf i).toNat)
  case atStart => exact ⟨0, Nat.zero_le _, rfl, Below.refl _ _, World.ownsRow_nil _ _ _ _⟩
  case round =>
    obtain ⟨k, hk, rfl, hb, hown⟩ := hrel
    by_cases hkn : k < n
    · have hc : wr.rangeAt b (off + k * 8) (es k).cells := fun j v hv => (hb.cell (p := ⟨b, off + k * 8 + j, none⟩) HB.out).trans (HC.out k (by omega) j v hv)
      have HR := Lib.hid hc
      have HW := Lib.hid hown
      have HBel := Lib.hid hb
      have HOne := HO.out k (by omega)
      have HX : Hid (cut k = (es k).cut) := by rw [HCUT.out]; exact rfl
      clear hc hown hb
      generalize hE : es k = e at HR HOne HX
      clear HCUT hE
      have hk0 : (0 : Int) ≤ (k : Int) := by omega
      have hk1 : (k : Int) < (len : Int) := by omega
      have hk2 : (k : Int) < (n : Int) := by omega
      go_wp2_with (first | (refine wpList_load_mid rfl 30 _ rfl b (off + k * 8) rfl _ _ HR.out Tryz.underlying30 rfl size30 ?_) | (refine wpList_store_row rfl 30 _ _ rfl wr.heap.size e.cells.toArray rfl rfl 30 _ (heap_alloc_new _ _) size30 rfl (by simp [Value.oneCell']; exact HOne) ?_))
      generalize hWW : World.setRow _ _ _ = W
      have hrow : W.heap[wr.heap.size]? = some (.cells e.cells.toArray 30 (0, 0)) := by rw [← hWW]; exact setRow_heap _ _ _ _ _ _ (heap_alloc_new _ _)
      have hsz : W.heap.size = wr.heap.size + 1 := by rw [← hWW]; simp [World.setRow]
      have hWb : Below wr.heap.size wr W := by rw [← hWW]; exact below_setRow (below_alloc wr _) (Nat.le_refl _) _
      clear hWW HR
      have HRow := Lib.hid hrow
      have HWb := Lib.hid hWb
      have HSz := Lib.hid hsz
      clear hrow hWb hsz
      refine Hid.out ?_
      obtain ⟨xb, hxb⟩ : ∃ xb, xb = wr.heap.size := ⟨_, rfl⟩
      rw [← hxb] at HRow HSz ⊢
      have HXb := Lib.hid hxb
      clear hxb
      refine Lib.hid ?_
      have hcutE : 0 ≤ min (e.key.size : Int) 400 := by omega
      have hcutL : min (e.key.size : Int) 400 ≤ e.key.size := by omega
      have hL9 : ∀ w' : World, w'.heap[xb]? = some (Obj.cells e.cells.toArray 30 (0, 0)) → w'.cell? ⟨xb, 0, none⟩ = some (.string e.key) := fun w' h => by simp [World.cell?, h]
      have hL1 : ∀ w' : World, w'.heap[xb]? = some (Obj.cells e.cells.toArray 30 (0, 0)) → w'.cell? ⟨xb, 1, none⟩ = some (.int .i64 e.k) := fun w' h => by simp [World.cell?, h]
      have hL2 : ∀ w' : World, w'.heap[xb]? = some (Obj.cells e.cells.toArray 30 (0, 0)) → w'.cell? ⟨xb, 2, none⟩ = some (.int .i64 e.i) := fun w' h => by simp [World.cell?, h]
      have hL3 : ∀ w' : World, w'.heap[xb]? = some (Obj.cells e.cells.toArray 30 (0, 0)) → w'.cell? ⟨xb, 3, none⟩ = some (.int .u64 e.u) := fun w' h => by simp [World.cell?, h]
      have hL4 : ∀ w' : World, w'.heap[xb]? = some (Obj.cells e.cells.toArray 30 (0, 0)) → w'.cell? ⟨xb, 4, none⟩ = some (.float .f64 e.f) := fun w' h => by simp [World.cell?, h]
      have hL5 : ∀ w' : World, w'.heap[xb]? = some (Obj.cells e.cells.toArray 30 (0, 0)) → w'.cell? ⟨xb, 5, none⟩ = some (.string e.s) := fun w' h => by simp [World.cell?, h]
      have hL6 : ∀ w' : World, w'.heap[xb]? = some (Obj.cells e.cells.toArray 30 (0, 0)) → w'.cell? ⟨xb, 6, none⟩ = some (e.l) := fun w' h => by simp [World.cell?, h]
      have hL7 : ∀ w' : World, w'.heap[xb]? = some (Obj.cells e.cells.toArray 30 (0, 0)) → w'.cell? ⟨xb, 7, none⟩ = some (e.m) := fun w' h => by simp [World.cell?, h]
      have hne : some xb ≠ u3.ownBlock := fun h => by
        have h1 := (HW.out.lt xb h.symm).2
        have h2 := HXb.out
        omega
      have HNe := Lib.hid hne
      clear hne
      have hWrow := HRow.out
      go_region_held3 (fun w' => w'.heap[xb]? = some (.cells e.cells.toArray 30 (0, 0)))
        (first | assumption | exact held_on (by assumption) (below_alloc _ _) | trivial)
        (first
          | (go_at_call 38; refine (plain_any e.k e.i e.u e.f e.s e.l e.m _).mono ?_; rintro r w2 ⟨rfl, hb2⟩; have hk2 := held_on (by assumption) hb2; have hB2 := belowOn (Below.drew HWb.out) hb2; have ho2 := owns_on HW.out hB2)
          | (rw [if_pos (by rfl)]; refine wp_append_lies _ _ _ _ (by rfl) w.heap.size 30 i0 z0 8 112 Tryz.underlying22 hi0 hz0 hs0 hb0 hzs (by omega) _ k (flat cut k) (by rfl) (ho2.alloc _)
              ⟨w2.heap.size, 0, none⟩ 1 1 (cut k).cells (by rfl) (by rfl) (World.news_of_block (cs := (cut k).cells.toArray) (t := 30) (fr := (0, 0)) (by rw [HX.out]; exact heap_alloc_new w2 _)) (by simp [Value.oneCell'])
              (by omega) (by simp only [maxLen]; omega) (by omega) (by have := (HBel.out.trans (hB2.mono HBel.out.size)).size; simp; omega) (w2.heap.size + 1) (by simp) ?_; intro gg cap2 w3 hown3 hgrow hat hlt; have hk3 := held_grown (by assumption) hgrow HNe.out))
      all_goals (
        have ho : w3.ownsRow w.heap.size 30 8 (.slice (some ⟨gg, 0, none⟩) (k + 1) cap2) (k + 1) (flat cut (k + 1)) := by rw [flat_succ]; exact hown3
        have hB3 : Below w.heap.size w w3 := ((HBel.out.trans (hB2.mono HBel.out.size)).alloc (by have := (HBel.out.trans (hB2.mono HBel.out.size)).size; omega) _).grown hgrow (by have := (HBel.out.trans (hB2.mono HBel.out.size)).size; simp; omega) (fun kk h => (HW.out.lt kk h).1)
        go_wp2
        exact ⟨⟨k + 1, by omega, by simp, hB3, ho⟩, by simp [intOf]; omega⟩)
    · have hkn' : k = n := by omega
      subst hkn'
      go_wp2
      go_ret
      exact ⟨_, rfl, hb, hown⟩
theorem pairs_none (p : Option Addr) (cap : Nat) (hp : p = none → cap = 0) (w : World) :
    Calls Tryz.prog 8 #[.slice p 0 cap] w fun r w' => r = .returned (.slice none 0 0) ∧ Below w.heap.size w w' := by
  have e1 : min (0 : Int) 60 = 0 := by omega
  cases p with
  | none =>
    obtain rfl := hp rfl
    go_enter Tryz.func8, Tryz.ntmps8
    go_wp2
    go_loopw [3, 12] (fun v i wr => v = .slice none 0 0 ∧ i = .int .i64 0 ∧ wr = w) (fun _ _ _ => 0)
    case atStart => exact ⟨rfl, rfl, rfl⟩
    case round =>
      obtain ⟨rfl, rfl, rfl⟩ := hrel
      go_wp2
      go_ret
      exact ⟨rfl, Below.refl _ _⟩
  | some a =>
    go_enter Tryz.func8, Tryz.ntmps8
    go_wp2
    go_loopw [3, 12] (fun v i wr => v = .slice none 0 0 ∧ i = .int .i64 0 ∧ wr = w) (fun _ _ _ => 0)
    case atStart => exact ⟨rfl, rfl, rfl⟩
    case round =>
      obtain ⟨rfl, rfl, rfl⟩ := hrel
      go_wp2
      go_ret
      exact ⟨rfl, Below.refl _ _⟩
end Go.Proofs.YtnggkkdcddpjlaaGreatDoor
