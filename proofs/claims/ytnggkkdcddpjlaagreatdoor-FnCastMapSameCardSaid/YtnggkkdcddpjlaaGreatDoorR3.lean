/- From a []Entry as an argument reads to what castPairs is to give of it, its numbers within their types. -/
import Derived.Test.YtnggkkdcddpjlaaGreatDoorR1
import Derived.Test.YtnggkkdcddpjlaaGreatDoorE2
namespace Go.Proofs.YtnggkkdcddpjlaaGreatDoor
open Go.ChangeShapes Go.WideShapes Go.ChangeAt Go.RowKit Go.Deep
set_option maxRecDepth 100000
set_option linter.unusedSimpArgs false
set_option linter.unusedVariables false
section
variable {H : Type} {enc : TypeId × Value → H} {P : Program} {w : World} {base : Nat} {spare : Nat → Bool} {held : Bool}
theorem trod_float2 {t : TypeId} {cs : List Value} {fuel : Nat} {x : DataW H × List MemPlace} {k : FloatKind} (ht : P.underlying t = some (.float k)) (h : DataW.trod enc P w base spare held fuel t cs = some x) : ∃ n, cs = [.float k n] ∧ (Lit.float k n).wf = true := by
  cases fuel with
  | zero => simp [DataW.trod] at h
  | succ n =>
    unfold DataW.trod at h
    rw [ht] at h
    split at h <;> simp_all
end
/-- The ranges of an entry's numbers, as it came. -/
structure RawOk (e : Raw) : Prop where
  i0 : -9223372036854775808 ≤ e.i
  i1 : e.i ≤ 9223372036854775807
  u0 : 0 ≤ e.u
  u1 : e.u ≤ 18446744073709551615
  f : e.f < 18446744073709551616
theorem i64_wf {n : Int} (h : (Lit.int .i64 n).wf = true) : -9223372036854775808 ≤ n ∧ n ≤ 9223372036854775807 := by
  unfold Lit.wf at h
  simp only [Bool.and_eq_true, decide_eq_true_eq] at h
  exact h
theorem u64_wf {n : Int} (h : (Lit.int .u64 n).wf = true) : 0 ≤ n ∧ n ≤ 18446744073709551615 := by
  unfold Lit.wf at h
  simp only [Bool.and_eq_true, decide_eq_true_eq] at h
  exact h
theorem f64_wf {n : Nat} (h : (Lit.float .f64 n).wf = true) : n < 18446744073709551616 := by
  unfold Lit.wf at h
  simpa using h
theorem raw_cells2 {H : Type} {enc : TypeId × Value → H} {w : World} {base : Nat} {spare : Nat → Bool} {held : Bool} {cs : List Value} {fuel : Nat} {x : DataW H × List MemPlace}
    (h : DataW.trod enc Tryz.prog w base spare held fuel 30 cs = some x) : ∃ e : Raw, cs = e.cells ∧ e.l.oneCell' = true ∧ e.m.oneCell' = true ∧ RawOk e := by
  obtain ⟨xs, n, _, _, hlen, hxl, hf⟩ := DataW.trod_struct Tryz.underlying30 h
  rw [cells30] at hlen
  have c1 := cellsOne
  simp only [Prod.mk.injEq] at c1
  obtain ⟨c2, c3, c9, c24, c25, c26, c22⟩ := c1
  match cs, hlen with
  | [v0, v1, v2, v3, v4, v5, v6, v7], _ =>
    match xs, hxl with
    | [y0, y1], _ =>
      have g0 := hf 0 _ rfl
      have g1 := hf 1 _ rfl
      simp only [c9, cells28, List.drop_zero, List.take_succ_cons, List.take_zero, List.drop_succ_cons, List.getElem?_cons_zero, List.getElem?_cons_succ] at g0 g1
      obtain ⟨s0, e0, _, _⟩ := DataW.trod_string Tryz.underlying9 g0
      obtain ⟨zs, n', _, _, _, hzl, hz⟩ := DataW.trod_struct Tryz.underlying28 g1
      match zs, hzl with
      | [z0, z1, z2, z3, z4, z5, z6], _ =>
        have k0 := hz 0 _ rfl
        have k1 := hz 1 _ rfl
        have k2 := hz 2 _ rfl
        have k3 := hz 3 _ rfl
        have k4 := hz 4 _ rfl
        have k5 := hz 5 _ rfl
        have k6 := hz 6 _ rfl
        simp only [c2, c3, c9, c24, c25, c26, c22, List.drop_zero, List.take_succ_cons, List.take_zero, List.drop_succ_cons, List.getElem?_cons_zero, List.getElem?_cons_succ] at k0 k1 k2 k3 k4 k5 k6
        obtain ⟨a0, h0, _, _⟩ := DataW.trod_int Tryz.underlying3 k0
        obtain ⟨a1, h1, _, q1⟩ := DataW.trod_int Tryz.underlying2 k1
        obtain ⟨a2, h2, _, q2⟩ := DataW.trod_int Tryz.underlying24 k2
        obtain ⟨a3, h3, q3⟩ := trod_float2 Tryz.underlying25 k3
        obtain ⟨a4, h4, _, _⟩ := DataW.trod_string Tryz.underlying9 k4
        obtain ⟨a5, h5, o5⟩ := slice_one Tryz.underlying26 k5
        obtain ⟨a6, h6, o6⟩ := slice_one Tryz.underlying22 k6
        cases e0
        cases h0
        cases h1
        cases h2
        cases h3
        cases h4
        cases h5
        cases h6
        exact ⟨⟨s0, a0, a1, a2, a3, a4, _, _⟩, rfl, o5, o6, ⟨(i64_wf q1).1, (i64_wf q1).2, (u64_wf q2).1, (u64_wf q2).2, f64_wf q3⟩⟩
theorem flt_zero : ∃ g h g', Flt 0 g h g' := flt_of 0 (by decide) (by decide)
theorem nice_cut (e : Raw) (h : RawOk e) : e.cut.Nice := by
  refine ⟨h.i0, h.i1, h.u0, by have := h.u1; show e.u < _; omega, ?_⟩
  show ∃ g hh g', Flt (cutF 4881901996069617664 e.f) g hh g'
  unfold cutF
  by_cases hc : ((FloatKind.f64.format.order e.f (Op.negFloat .f64 4881901996069617664) == some .gt) && (FloatKind.f64.format.order e.f 4881901996069617664 == some .lt)) = true
  · rw [if_pos hc]
    rw [Bool.and_eq_true] at hc
    exact flt_of _ h.f (order_rung _ hc.1 hc.2)
  · rw [if_neg hc]
    exact flt_zero
/-- What castPairs is to give of an argument. -/
def Pairs8N (w : World) (v : Value) : Prop :=
  Calls Tryz.prog 8 #[v] w fun r w' => ∃ p n cap es, r = .returned (.slice p n cap) ∧ Lst w' p n cap es ∧ (∀ j, j < n → (es j).Fine) ∧ (∀ j, j < n → (es j).Nice) ∧ Below w.heap.size w w'
theorem pairs_any2 {v : Value} {w : World} {n : Nat} {cap : Nat} (hg : Good w) (h60 : n ≤ 60) (es : Nat → Raw) (hok : ∀ j, j < n → RawOk (es j))
    (h : Calls Tryz.prog 8 #[v] w fun r w' => ∃ u, r = .returned u ∧ Below w.heap.size w w' ∧ w'.ownsRow w.heap.size 30 8 u n (flat (fun j => (es j).cut) n)) : Pairs8N w v :=
  h.mono fun r w' ⟨u, he, hb, ho⟩ => by
    obtain ⟨p, cp, rfl, hL⟩ := lst_of_owns ho h60
    exact ⟨p, n, cp, _, he, hL, fun j _ => fine_cut _, fun j hj => nice_cut _ (hok j hj), hb⟩
/-- An argument of type []Entry. -/
theorem open_entries2 {H : Type} {enc : TypeId × Value → H} {w : World} {spare : Nat → Bool} {held : Bool} {v : Value} {d : DataW H} {p : List MemPlace} {base0 : Nat} {r : Reach} (hg : Good w)
    (hv : Value.okWide Tryz.prog w r base0 22 v) (h : DataW.Trod enc Tryz.prog w 0 spare held 22 v d p) : ∃ q len cap, v = .slice q len cap ∧ Pairs8N w v := by
  obtain ⟨q, len, cap, rfl⟩ := okWide_slice Tryz.underlying22 hv
  refine ⟨q, len, cap, rfl, ?_⟩
  obtain ⟨fuel, hf⟩ := h
  have hf : DataW.trod enc Tryz.prog w 0 spare held fuel 22 [.slice q len cap] = some (d, p) := hf
  rcases open_slice Tryz.underlying22 hf with ⟨hcs, _⟩ | ⟨a, len', cap', m, n, D, Pl, hcs, _, hl, hm, hmm, _, hx⟩
  · cases hcs
    exact (pairs_none none 0 (fun _ => rfl) w).mono fun r w' ⟨he, hb⟩ => ⟨none, 0, 0, fun _ => ⟨⟨#[]⟩, 0, 0, 0, 0, ⟨#[]⟩⟩, he, ⟨by omega, by omega, fun h => by omega⟩, fun j hj => by omega, fun j hj => by omega, hb⟩
  · cases hcs
    by_cases h0 : len = 0
    · subst h0
      exact (pairs_none (some a) cap (fun h => by cases h) w).mono fun r w' ⟨he, hb⟩ => ⟨none, 0, 0, fun _ => ⟨⟨#[]⟩, 0, 0, 0, 0, ⟨#[]⟩⟩, he, ⟨by omega, by omega, fun h => by omega⟩, fun j hj => by omega, fun j hj => by omega, hb⟩
    · have hlm : len ≤ m := by rw [hmm]; split <;> omega
      rw [cells30] at hx
      have each : ∀ i, i < m → ∃ e : Raw, (∀ t, t < 8 → w.cell? ((a.add (i * 8)).add t) = e.cells[t]?) ∧ e.l.oneCell' = true ∧ e.m.oneCell' = true ∧ RawOk e := by
        intro i hi
        obtain ⟨cs', h1, h2⟩ := hx i hi
        obtain ⟨_, hlen, hcell⟩ := World.cells?_some h1
        obtain ⟨e, rfl, o1, o2, o3⟩ := raw_cells2 h2
        exact ⟨e, hcell, o1, o2, o3⟩
      obtain ⟨es, hes⟩ := choose_lt each
      have ha : w.cell? a = some (.string (es 0).key) := (hes 0 (by omega)).1 0 (by omega)
      have hspot : a.spot = none := by
        unfold World.cell? at ha
        split at ha
        · split at ha
          · cases ha
          · rename_i hs; simpa using hs
        · cases ha
      obtain ⟨b, off, sp⟩ := a
      dsimp only at hspot
      subst hspot
      have hbl : b < w.heap.size := World.block_lt_of_cell? w _ ha
      refine pairs_any2 (cap := cap) hg (by omega) es (fun j hj => (hes j (by omega)).2.2.2) (pairs_some b off len cap es w hl (by omega) (by simp only [maxLen] at hm; omega) hbl ?_ (fun j hj => ⟨(hes j (by omega)).2.1, (hes j (by omega)).2.2.1⟩) hg)
      intro j hj t u hu
      have ht8 : t < 8 := by simpa using (List.getElem?_eq_some_iff.1 hu).1
      have h1 := (hes j (by omega)).1 t ht8
      rw [Addr.add_mid, Addr.add_mid, hu] at h1
      exact h1
end Go.Proofs.YtnggkkdcddpjlaaGreatDoor
