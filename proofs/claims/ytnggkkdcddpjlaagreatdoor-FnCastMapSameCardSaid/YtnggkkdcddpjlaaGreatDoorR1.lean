/- From a []Entry as an argument reads to what castPairs is to give of it. -/
import Derived.Test.YtnggkkdcddpjlaaGreatDoorR0
import Derived.Test.YtnggkkdcddpjlaaGreatDoorC12
import Derived.Deep.Slices
import Derived.Carry
namespace Go.Proofs.YtnggkkdcddpjlaaGreatDoor
open Go.ChangeShapes Go.WideShapes Go.ChangeAt Go.RowKit Go.Deep
set_option maxRecDepth 100000
set_option linter.unusedSimpArgs false
set_option linter.unusedVariables false
section
variable {H : Type} {enc : TypeId × Value → H} {P : Program} {w : World} {base : Nat} {spare : Nat → Bool} {held : Bool}
theorem trod_float {t : TypeId} {cs : List Value} {fuel : Nat} {x : DataW H × List MemPlace} {k : FloatKind} (ht : P.underlying t = some (.float k)) (h : DataW.trod enc P w base spare held fuel t cs = some x) : ∃ n, cs = [.float k n] := by
  cases fuel with
  | zero => simp [DataW.trod] at h
  | succ n =>
    unfold DataW.trod at h
    rw [ht] at h
    split at h <;> simp_all
end
instance : Inhabited Raw := ⟨⟨⟨#[]⟩, 0, 0, 0, 0, ⟨#[]⟩, .slice none 0 0, .slice none 0 0⟩⟩
theorem cells30 : Tryz.prog.cellsOf 30 = 8 := by kernel_rfl
theorem cells28 : Tryz.prog.cellsOf 28 = 7 := by kernel_rfl
theorem cellsOne : (Tryz.prog.cellsOf 2, Tryz.prog.cellsOf 3, Tryz.prog.cellsOf 9, Tryz.prog.cellsOf 24, Tryz.prog.cellsOf 25, Tryz.prog.cellsOf 26, Tryz.prog.cellsOf 22) = (1, 1, 1, 1, 1, 1, 1) := by kernel_rfl
theorem slice_one {H : Type} {enc : TypeId × Value → H} {w : World} {base : Nat} {spare : Nat → Bool} {held : Bool} {t e : TypeId} {cs : List Value} {fuel : Nat} {x : DataW H × List MemPlace}
    (ht : Tryz.prog.underlying t = some (.slice e)) (h : DataW.trod enc Tryz.prog w base spare held fuel t cs = some x) : ∃ v, cs = [v] ∧ v.oneCell' = true := by
  rcases DataW.trod_slice ht h with ⟨rfl, _⟩ | ⟨a, len, cap, _, _, _, _, rfl, _⟩
  · exact ⟨_, rfl, rfl⟩
  · exact ⟨_, rfl, rfl⟩
theorem raw_cells {H : Type} {enc : TypeId × Value → H} {w : World} {base : Nat} {spare : Nat → Bool} {held : Bool} {cs : List Value} {fuel : Nat} {x : DataW H × List MemPlace}
    (h : DataW.trod enc Tryz.prog w base spare held fuel 30 cs = some x) : ∃ e : Raw, cs = e.cells ∧ e.l.oneCell' = true ∧ e.m.oneCell' = true := by
  obtain ⟨xs, n, _, _, hlen, hxl, hf⟩ := DataW.trod_struct Tryz.underlying30 h
  rw [cells30] at hlen
  have c1 := cellsOne
  simp only [Prod.mk.injEq] at c1
  obtain ⟨c2, c3, c9, c24, c25, c26, c22⟩ := c1
  match cs, hlen with
  | [v0, v1, v2, v3, v4, v5, v6, v7], _ =>
    match xs, hxl with
    | [y0, y1], _ =>
      have g0 := hf 0 _ rfl
      have g1 := hf 1 _ rfl
      simp only [c9, cells28, List.drop_zero, List.take_succ_cons, List.take_zero, List.drop_succ_cons, List.getElem?_cons_zero, List.getElem?_cons_succ] at g0 g1
      obtain ⟨s0, e0, _, _⟩ := DataW.trod_string Tryz.underlying9 g0
      obtain ⟨zs, n', _, _, _, hzl, hz⟩ := DataW.trod_struct Tryz.underlying28 g1
      match zs, hzl with
      | [z0, z1, z2, z3, z4, z5, z6], _ =>
        have k0 := hz 0 _ rfl
        have k1 := hz 1 _ rfl
        have k2 := hz 2 _ rfl
        have k3 := hz 3 _ rfl
        have k4 := hz 4 _ rfl
        have k5 := hz 5 _ rfl
        have k6 := hz 6 _ rfl
        simp only [c2, c3, c9, c24, c25, c26, c22, List.drop_zero, List.take_succ_cons, List.take_zero, List.drop_succ_cons, List.getElem?_cons_zero, List.getElem?_cons_succ] at k0 k1 k2 k3 k4 k5 k6
        obtain ⟨a0, h0, _, _⟩ := DataW.trod_int Tryz.underlying3 k0
        obtain ⟨a1, h1, _, _⟩ := DataW.trod_int Tryz.underlying2 k1
        obtain ⟨a2, h2, _, _⟩ := DataW.trod_int Tryz.underlying24 k2
        obtain ⟨a3, h3⟩ := trod_float Tryz.underlying25 k3
        obtain ⟨a4, h4, _, _⟩ := DataW.trod_string Tryz.underlying9 k4
        obtain ⟨a5, h5, o5⟩ := slice_one Tryz.underlying26 k5
        obtain ⟨a6, h6, o6⟩ := slice_one Tryz.underlying22 k6
        cases e0
        cases h0
        cases h1
        cases h2
        cases h3
        cases h4
        cases h5
        cases h6
        exact ⟨⟨s0, a0, a1, a2, a3, a4, _, _⟩, rfl, o5, o6⟩
theorem pairs_any {v : Value} {w : World} {n : Nat} {cap : Nat} (hg : Good w) (h60 : n ≤ 60) (es : Nat → Raw)
    (h : Calls Tryz.prog 8 #[v] w fun r w' => ∃ u, r = .returned u ∧ Below w.heap.size w w' ∧ w'.ownsRow w.heap.size 30 8 u n (flat (fun j => (es j).cut) n)) : Pairs8 w v :=
  h.mono fun r w' ⟨u, he, hb, ho⟩ => by
    obtain ⟨p, cp, rfl, hL⟩ := lst_of_owns ho h60
    exact ⟨p, n, cp, _, he, hL, fun j _ => fine_cut _, hb⟩
/-- An argument of type []Entry. -/
theorem open_entries {H : Type} {enc : TypeId × Value → H} {w : World} {spare : Nat → Bool} {held : Bool} {v : Value} {d : DataW H} {p : List MemPlace} {base0 : Nat} {r : Reach} (hg : Good w)
    (hv : Value.okWide Tryz.prog w r base0 22 v) (h : DataW.Trod enc Tryz.prog w 0 spare held 22 v d p) : ∃ q len cap, v = .slice q len cap ∧ Pairs8 w v := by
  obtain ⟨q, len, cap, rfl⟩ := okWide_slice Tryz.underlying22 hv
  refine ⟨q, len, cap, rfl, ?_⟩
  obtain ⟨fuel, hf⟩ := h
  have hf : DataW.trod enc Tryz.prog w 0 spare held fuel 22 [.slice q len cap] = some (d, p) := hf
  rcases open_slice Tryz.underlying22 hf with ⟨hcs, _⟩ | ⟨a, len', cap', m, n, D, Pl, hcs, _, hl, hm, hmm, _, hx⟩
  · cases hcs
    exact (pairs_none none 0 (fun _ => rfl) w).mono fun r w' ⟨he, hb⟩ => ⟨none, 0, 0, fun _ => ⟨⟨#[]⟩, 0, 0, 0, 0, ⟨#[]⟩⟩, he, ⟨by omega, by omega, fun h => by omega⟩, fun j hj => by omega, hb⟩
  · cases hcs
    by_cases h0 : len = 0
    · subst h0
      exact (pairs_none (some a) cap (fun h => by cases h) w).mono fun r w' ⟨he, hb⟩ => ⟨none, 0, 0, fun _ => ⟨⟨#[]⟩, 0, 0, 0, 0, ⟨#[]⟩⟩, he, ⟨by omega, by omega, fun h => by omega⟩, fun j hj => by omega, hb⟩
    · have hlm : len ≤ m := by rw [hmm]; split <;> omega
      rw [cells30] at hx
      have each : ∀ i, i < m → ∃ e : Raw, (∀ t, t < 8 → w.cell? ((a.add (i * 8)).add t) = e.cells[t]?) ∧ e.l.oneCell' = true ∧ e.m.oneCell' = true := by
        intro i hi
        obtain ⟨cs', h1, h2⟩ := hx i hi
        obtain ⟨_, hlen, hcell⟩ := World.cells?_some h1
        obtain ⟨e, rfl, o1, o2⟩ := raw_cells h2
        exact ⟨e, hcell, o1, o2⟩
      obtain ⟨es, hes⟩ := choose_lt each
      have ha : w.cell? a = some (.string (es 0).key) := (hes 0 (by omega)).1 0 (by omega)
      have hspot : a.spot = none := by
        unfold World.cell? at ha
        split at ha
        · split at ha
          · cases ha
          · rename_i hs; simpa using hs
        · cases ha
      obtain ⟨b, off, sp⟩ := a
      dsimp only at hspot
      subst hspot
      have hbl : b < w.heap.size := World.block_lt_of_cell? w _ ha
      refine pairs_any (cap := cap) hg (by omega) es (pairs_some b off len cap es w hl (by omega) (by simp only [maxLen] at hm; omega) hbl ?_ (fun j hj => ⟨(hes j (by omega)).2.1, (hes j (by omega)).2.2⟩) hg)
      intro j hj t u hu
      have ht8 : t < 8 := by simpa using (List.getElem?_eq_some_iff.1 hu).1
      have h1 := (hes j (by omega)).1 t ht8
      rw [Addr.add_mid, Addr.add_mid, hu] at h1
      exact h1
end Go.Proofs.YtnggkkdcddpjlaaGreatDoor
