/- From the row's list of package-level variables to what the walks read of them; a list of texts as an argument. -/
import Derived.Test.YtnggkkdcddpjlaaGreatDoorCards
import Derived.Test.YtnggkkdcddpjlaaGreatDoorTie
import Derived.Test.YtnggkkdcddpjlaaGreatDoorZ01
import Derived.ProofKit
import Derived.OpenShut
import Derived.LaidMore
import Derived.Lay
import Derived.SevenTiedAt
import Derived.Stop.Joined
import Derived.Stop.LaidErr
import Derived.Test.YtnggkkdcddpjlaaGreatDoorZ09
import Derived.Deep.Slices
import Derived.Carry
import Derived.Test.YtnggkkdcddpjlaaGreatDoorZ49
import Derived.Laws.Cover2
import Derived.SliceStrings
namespace Go.Proofs.YtnggkkdcddpjlaaGreatDoor
open Go.ChangeShapes Go.WideShapes Go.ChangeAt Go.RowKit
set_option maxRecDepth 100000
theorem own : ownKnob Tryz.prog.godebug = none := by kernel_rfl
theorem star : "*" ++ "errors.errorString" = "*errors.errorString" := by decide
theorem row207 (u : TypeId) (h : Tryz.prog.typeName? 3 u = some "*errors.errorString") : u = 207 :=
  typeName_ptr_named (nm := "errors.errorString") (by rw [star]; kernel_rfl) (by kernel_rfl) (by decide) u (by rw [star]; exact h)
theorem gSynT : (Tryz.prog.globals[1]?).map (·.type) = some 73 := by kernel_rfl
theorem gRngT : (Tryz.prog.globals[2]?).map (·.type) = some 73 := by kernel_rfl
theorem cells9 : Tryz.prog.cellsOf 9 = 1 := by kernel_rfl
theorem cells24 : Tryz.prog.cellsOf 24 = 1 := by kernel_rfl
theorem cells209 : Tryz.prog.cellsOf 209 = 1 := by kernel_rfl
theorem cells305 : Tryz.prog.cellsOf 305 = 20 := by kernel_rfl
theorem gPowT : (Tryz.prog.globals[4]?).map (·.type) = some 305 := by kernel_rfl
theorem pow_data : (Rows.laid_internal_strconv_uint64pow10 : DataW Unit) = Lib.tabData .u64 Lib.pow10Tab := by kernel_rfl
theorem gBits : Tryz.prog.globalNamed "math/bits.deBruijn64tab" = some 10 := by kernel_rfl
theorem blocks (w : World) {d : DataW Unit} {r : List (String × DataW Unit)} (h : laidMet Tryz.prog (("math/bits.deBruijn64tab", d) :: r) w) : 11 ≤ w.heap.size := by
  obtain ⟨ps, ⟨g, t, cs, fuel, p, q, hg, ht, hv, _⟩, _⟩ := h
  unfold World.var? at hv
  rw [gBits] at hv
  simp only [Option.bind_some] at hv
  rcases Nat.lt_or_ge 10 w.heap.size with h1 | h1
  · exact h1
  · rw [Array.getElem?_eq_none h1] at hv
    cases hv
theorem good_of (w : World) (hb : 11 ≤ w.heap.size) {r1 r2 r3 : List (String × DataW Unit)}
    (h1 : laidMet Tryz.prog (("internal/strconv.uint64pow10", Rows.laid_internal_strconv_uint64pow10) :: r1) w)
    (h2 : laidMet Tryz.prog (("strconv.ErrRange", Rows.laid_strconv_ErrRange) :: r2) w)
    (h3 : laidMet Tryz.prog (("strconv.ErrSyntax", Rows.laid_strconv_ErrSyntax) :: r3) w) : Good w := by
  refine ⟨hb, ?_, ?_, ?_⟩
  · obtain ⟨a, s, hv, _⟩ := laid_sentinel h3 gSyn gSynT Tryz.underlying73 row207 Tryz.underlying207 Tryz.underlying209 rfl rfl Tryz.underlying9 cells209 cells9
    exact ⟨_, _, hv⟩
  · obtain ⟨a, s, hv, _⟩ := laid_sentinel h2 gRng gRngT Tryz.underlying73 row207 Tryz.underlying207 Tryz.underlying209 rfl rfl Tryz.underlying9 cells209 cells9
    exact ⟨_, _, hv⟩
  · rw [pow_data] at h1
    exact Lib.tabIs_of_head gPow gPowT Tryz.underlying305 Tryz.underlying24 cells24 cells305 h1
theorem good_of_list {w : World} (h : laidMetH Tryz.prog Rows.fnCastIntTextRow.laid w) : Good w := by
  rw [MakeChecks.laidMetH_plain _ _ _ (by kernel_rfl)] at h
  have h3 := h.tail.tail.tail
  exact good_of w (blocks w h.tail) h3 h3.tail h3.tail.tail
end Go.Proofs.YtnggkkdcddpjlaaGreatDoor
namespace Go.Proofs.YtnggkkdcddpjlaaGreatDoor
open Go.ChangeShapes Go.WideShapes Go.ChangeAt Go.RowKit
set_option maxRecDepth 100000
theorem gP10 : Tryz.prog.globalNamed "internal/strconv.pow10Tab" = some 7 := by kernel_rfl
theorem gP10T : (Tryz.prog.globals[7]?).map (·.type) = some 352 := by kernel_rfl
theorem u352 : Tryz.prog.underlying 352 = some (.array 696 351) := Tryz.underlying352
theorem u351 : ∃ f0 f1, Tryz.prog.underlying 351 = some (.struct #[f0, f1]) ∧ f0.type = 24 ∧ f0.offset = 0 ∧ f1.type = 24 ∧ f1.offset = 1 := ⟨_, _, Tryz.underlying351, rfl, rfl, rfl, rfl⟩
theorem cells351 : Tryz.prog.cellsOf 351 = 2 := by kernel_rfl
theorem rows_len : Pinned.pow10Rows.length = 696 := by kernel_rfl
theorem pow_at {W : World} {rest : List (String × DataW Unit)} (h : laidMet Tryz.prog (("internal/strconv.pow10Tab", Rows.laid_internal_strconv_pow10Tab) :: rest) W) : PowAt W := by
  obtain ⟨ps, ⟨g', t', cs, fuel, p, q, hg', ht', hvar, hd, _, _⟩, _⟩ := h
  obtain rfl := Option.some.inj (gP10.symm.trans hg')
  obtain rfl := Option.some.inj (gP10T.symm.trans ht')
  obtain ⟨xs, m, _, hx, hlen, hxl, hf⟩ := DataW.trod_array u352 hd
  obtain ⟨f0, f1, hu, t0, o0, t1, o1⟩ := u351
  have key : ∀ i, i < 696 → cs[i * 2]? = some (.int .u64 (pHi i)) ∧ cs[i * 2 + 1]? = some (.int .u64 (pLo i)) := by
    intro i hi
    have h1 := hf i hi
    rw [cells351] at h1
    have hxi : i < xs.length := by omega
    rw [List.getElem?_eq_getElem hxi] at h1
    obtain ⟨ys, n, _, hy, hyl, hyn, hg⟩ := DataW.trod_struct hu h1
    have g0 := hg 0 f0 rfl
    have g1 := hg 1 f1 rfl
    rw [t0, o0, cells24] at g0
    rw [t1, o1, cells24] at g1
    match ys, hyn with
    | [y0, y1], _ =>
      obtain ⟨n0, c0, rfl, _⟩ := DataW.trod_int Tryz.underlying24 g0
      obtain ⟨n1, c1, rfl, _⟩ := DataW.trod_int Tryz.underlying24 g1
      have hd2 : (Rows.laid_internal_strconv_pow10Tab : DataW Unit) = .agg (xs.map (·.1)) := congrArg Prod.fst hx
      have hd3 : xs.map (·.1) = Pinned.pow10Rows.map fun x => (.agg [.lit (.int .u64 x.1), .lit (.int .u64 x.2)] : DataW Unit) := by
        have h2 : (Rows.laid_internal_strconv_pow10Tab : DataW Unit) = .agg (Pinned.pow10Rows.map fun x => .agg [.lit (.int .u64 x.1), .lit (.int .u64 x.2)]) := rfl
        rw [h2] at hd2
        exact (DataW.agg.inj hd2).symm
      have hi2 : i < Pinned.pow10Rows.length := by rw [rows_len]; exact hi
      have h4 := congrArg (fun l => l[i]?) hd3
      simp only [List.getElem?_map, List.getElem?_eq_getElem hxi, List.getElem?_eq_getElem hi2, Option.map_some, Option.some.injEq] at h4
      rw [hy] at h4
      simp only [List.map_cons, List.map_nil, DataW.agg.injEq, List.cons.injEq, DataW.lit.injEq, Lit.int.injEq, true_and, and_true] at h4
      obtain ⟨e0, e1⟩ := h4
      have d0 : cs[i * 2]? = some (.int .u64 n0) := by
        have := congrArg (fun l => l[0]?) c0
        simpa [List.getElem?_take, List.getElem?_drop] using this
      have d1 : cs[i * 2 + 1]? = some (.int .u64 n1) := by
        have := congrArg (fun l => l[0]?) c1
        simpa [List.getElem?_take, List.getElem?_drop] using this
      unfold pHi pLo
      rw [List.getD_eq_getElem?_getD, List.getElem?_eq_getElem hi2]
      refine ⟨?_, ?_⟩
      · rw [d0, e0]; rfl
      · rw [d1, e1]; rfl
  refine ⟨fun i hi => ?_, fun i hi => ?_⟩
  · rw [World.var?_cell gP10 hvar (i * 2)]
    simpa using (key i hi).1
  · rw [World.var?_cell gP10 hvar (i * 2 + 1)]
    simpa using (key i hi).2
theorem pow_of_list {w : World} (h : laidMetH Tryz.prog Rows.fnCastMapSameRow.laid w) : PowAt w := by
  rw [MakeChecks.laidMetH_plain _ _ _ (by kernel_rfl)] at h
  exact pow_at h.tail.tail.tail.tail.tail.tail.tail
end Go.Proofs.YtnggkkdcddpjlaaGreatDoor
namespace Go.Proofs.YtnggkkdcddpjlaaGreatDoor
open Go.ChangeShapes Go.WideShapes Go.ChangeAt Go.RowKit Go.Deep
set_option maxRecDepth 100000
set_option linter.unusedSimpArgs false
set_option linter.unusedVariables false
theorem add_at (b o n : Nat) : (⟨b, o, none⟩ : Addr).add n = ⟨b, o + n, none⟩ := by
  unfold Addr.add
  split
  · rename_i h; subst h; rfl
  · rfl
theorem spot_none {w : World} {a : Addr} {v : Value} (ha : w.cell? a = some v) : a.spot = none := by
  unfold World.cell? at ha
  split at ha
  · split at ha
    · cases ha
    · rename_i hs; simpa using hs
  · cases ha
section
variable {H : Type} {enc : TypeId × Value → H} {P : Program} {w : World} {base : Nat} {spare : Nat → Bool} {held : Bool}
theorem trod_float3 {t : TypeId} {cs : List Value} {fuel : Nat} {x : DataW H × List MemPlace} {k : FloatKind} (ht : P.underlying t = some (.float k)) (h : DataW.trod enc P w base spare held fuel t cs = some x) : ∃ n, cs = [.float k n] ∧ x = (.lit (.float k n), []) := by
  cases fuel with
  | zero => simp [DataW.trod] at h
  | succ n =>
    unfold DataW.trod at h
    rw [ht] at h
    split at h <;> simp_all
end
/-- A package-level slice whose elements are one cell each. -/
theorem slice_at {W : World} {n : String} {rest : List (String × DataW Unit)} {ds : List (DataW Unit)} {t e : TypeId} {g : Nat} (h : laidMet Tryz.prog ((n, .slice ds []) :: rest) W)
    (hn : Tryz.prog.globalNamed n = some g) (ht : (Tryz.prog.globals[g]?).map (·.type) = some t) (ut : Tryz.prog.underlying t = some (.slice e)) (hc : Tryz.prog.cellsOf e = 1) (h0 : 0 < ds.length) :
    ∃ b o, b < W.heap.size ∧ W.cell? ⟨g, 0, none⟩ = some (.slice (some ⟨b, o, none⟩) ds.length ds.length) ∧ ∀ i, i < ds.length → ∃ V d Pl m, W.cell? ⟨b, o + i, none⟩ = some V ∧ DataW.trod (fun _ => ()) Tryz.prog W 0 (fun _ => true) false m e [V] = some (d, Pl) ∧ ds[i]? = some d := by
  obtain ⟨ps, ⟨g', t', cs, fuel, p, q, hg', ht', hvar, hd, _, _⟩, _⟩ := h
  obtain rfl := Option.some.inj (hn.symm.trans hg')
  obtain rfl := Option.some.inj (ht.symm.trans ht')
  rcases open_slice1 ut hc hd with ⟨_, hx⟩ | ⟨a, len, cap, m, k, V, D, Pl, hcs, _, hl, hm, hmm, hx, hV⟩
  · exact absurd (congrArg Prod.fst hx) (by simp)
  have hx1 := congrArg Prod.fst hx
  dsimp only at hx1
  obtain ⟨e1, e2⟩ := DataW.slice.inj hx1
  have l1 : ds.length = len := by rw [e1]; simp
  have l2 : m - len = 0 := by
    have := congrArg List.length e2
    simpa using this.symm
  rw [if_pos rfl] at hmm
  have hcap : cap = len := by omega
  have h00 := (hV 0 (by omega)).1
  have e0 : a.add 0 = a := if_pos rfl
  rw [e0] at h00
  have hs := spot_none h00
  have hb := World.block_lt_of_cell? W _ h00
  obtain ⟨b, o, sp⟩ := a
  dsimp only at hs hb
  subst hs
  subst hcap
  rw [l1]
  refine ⟨b, o, hb, ?_, fun i hi => ?_⟩
  · rw [World.var?_cell hn hvar 0]
    have := congrArg (fun l => l[0]?) hcs
    simpa using this
  · obtain ⟨h1, h2⟩ := hV i (by omega)
    rw [add_at] at h1
    refine ⟨_, _, _, _, h1, h2, ?_⟩
    rw [e1]
    simp [hi]
theorem cells339 : Tryz.prog.cellsOf 339 = 3 := by kernel_rfl
theorem cells80 : Tryz.prog.cellsOf 80 = 1 := by kernel_rfl
theorem cells3 : Tryz.prog.cellsOf 3 = 1 := by kernel_rfl
theorem cells25 : Tryz.prog.cellsOf 25 = 1 := by kernel_rfl
theorem cells357 : Tryz.prog.cellsOf 357 = 2 := by kernel_rfl
theorem u339 : ∃ f0 f1 f2, Tryz.prog.underlying 339 = some (.struct #[f0, f1, f2]) ∧ f0.type = 80 ∧ f0.offset = 0 ∧ f1.type = 80 ∧ f1.offset = 1 ∧ f2.type = 3 ∧ f2.offset = 2 := ⟨_, _, _, Tryz.underlying339, rfl, rfl, rfl, rfl, rfl, rfl⟩
/-- A float's form, as it is laid. -/
theorem info_at {W : World} {n : String} {rest : List (String × DataW Unit)} {A B C : Int} {g : Nat} (h : laidMet Tryz.prog ((n, .agg [.lit (.int .u64 A), .lit (.int .u64 B), .lit (.int .i64 C)]) :: rest) W)
    (hn : Tryz.prog.globalNamed n = some g) (ht : (Tryz.prog.globals[g]?).map (·.type) = some 339) :
    (∃ c u, W.heap[g]? = some (.cells c u (0, 0))) ∧ W.cell? ⟨g, 0, none⟩ = some (.int .u64 A) ∧ W.cell? ⟨g, 1, none⟩ = some (.int .u64 B) ∧ W.cell? ⟨g, 2, none⟩ = some (.int .i64 C) := by
  obtain ⟨ps, ⟨g', t', cs, fuel, p, q, hg', ht', hvar, hd, hr, hps⟩, _, hall⟩ := h
  obtain rfl := Option.some.inj (hn.symm.trans hg')
  obtain rfl := Option.some.inj (ht.symm.trans ht')
  obtain ⟨f0, f1, f2, hu, t0, o0, t1, o1, t2, o2⟩ := u339
  obtain ⟨xs, k, _, hx, hlen, hxl, hf⟩ := DataW.trod_struct hu hd
  rw [cells339] at hlen
  have hx1 := DataW.agg.inj (congrArg Prod.fst hx)
  have g0 := hf 0 f0 rfl
  have g1 := hf 1 f1 rfl
  have g2 := hf 2 f2 rfl
  rw [t0, o0, cells80] at g0
  rw [t1, o1, cells80] at g1
  rw [t2, o2, cells3] at g2
  match xs, hxl with
  | [y0, y1, y2], _ =>
    obtain ⟨n0, c0, rfl, _⟩ := DataW.trod_int Tryz.underlying80 g0
    obtain ⟨n1, c1, rfl, _⟩ := DataW.trod_int Tryz.underlying80 g1
    obtain ⟨n2, c2, rfl, _⟩ := DataW.trod_int Tryz.underlying3 g2
    simp only [List.map_cons, List.map_nil, List.cons.injEq, DataW.lit.injEq, Lit.int.injEq, true_and, and_true] at hx1
    obtain ⟨e0, e1, e2⟩ := hx1
    subst e0 e1 e2
    have d0 : cs.toList[0]? = some (.int .u64 A) := by
      have := congrArg (fun l => l[0]?) c0
      simpa [List.getElem?_take, List.getElem?_drop] using this
    have d1 : cs.toList[1]? = some (.int .u64 B) := by
      have := congrArg (fun l => l[0]?) c1
      simpa [List.getElem?_take, List.getElem?_drop] using this
    have d2 : cs.toList[2]? = some (.int .i64 C) := by
      have := congrArg (fun l => l[0]?) c2
      simpa [List.getElem?_take, List.getElem?_drop] using this
    refine ⟨(hall g 0 ?_).1, ?_, ?_, ?_⟩
    · rw [hps]
      refine List.mem_append_left _ (List.mem_append_left _ ?_)
      unfold MemPlace.row
      refine List.mem_map.2 ⟨0, List.mem_range.2 ?_, rfl⟩
      rw [← Array.length_toList]
      omega
    · rw [World.var?_cell hn hvar 0]; simpa using d0
    · rw [World.var?_cell hn hvar 1]; simpa using d1
    · rw [World.var?_cell hn hvar 2]; simpa using d2
theorem bool_at {W : World} {n : String} {rest : List (String × DataW Unit)} {b : Bool} {g : Nat} (h : laidMet Tryz.prog ((n, .lit (.bool b)) :: rest) W)
    (hn : Tryz.prog.globalNamed n = some g) (ht : (Tryz.prog.globals[g]?).map (·.type) = some 4) : W.cell? ⟨g, 0, none⟩ = some (.bool b) := by
  obtain ⟨ps, ⟨g', t', cs, fuel, p, q, hg', ht', hvar, hd, hr, hps⟩, _, hall⟩ := h
  obtain rfl := Option.some.inj (hn.symm.trans hg')
  obtain rfl := Option.some.inj (ht.symm.trans ht')
  obtain ⟨c, hc, hx⟩ := DataW.trod_bool Tryz.underlying4 hd
  have hx1 := congrArg Prod.fst hx
  simp only [DataW.lit.injEq, Lit.bool.injEq] at hx1
  subst hx1
  rw [World.var?_cell hn hvar 0]
  have := congrArg (fun l => l[0]?) hc
  simpa using this
theorem u357 : ∃ f0 f1, Tryz.prog.underlying 357 = some (.struct #[f0, f1]) ∧ f0.type = 3 ∧ f0.offset = 0 ∧ f1.type = 9 ∧ f1.offset = 1 := ⟨_, _, Tryz.underlying357, rfl, rfl, rfl, rfl⟩
/-- A package-level slice of rows of an int and a string. -/
theorem rows_at {W : World} {n : String} {rest : List (String × DataW Unit)} {rs : List (Nat × List UInt8)} {g : Nat} (h : laidMet Tryz.prog ((n, .slice (rs.map fun x => .agg [.lit (.int .i64 x.1), .lit (.string x.2)]) []) :: rest) W)
    (hn : Tryz.prog.globalNamed n = some g) (ht : (Tryz.prog.globals[g]?).map (·.type) = some 358) (h0 : 0 < rs.length) :
    ∃ b o, b < W.heap.size ∧ W.cell? ⟨g, 0, none⟩ = some (.slice (some ⟨b, o, none⟩) rs.length rs.length) ∧ ∀ i, i < rs.length → W.cell? ⟨b, o + i * 2, none⟩ = some (.int .i64 (rs.getD i (0, [])).1) ∧ W.cell? ⟨b, o + i * 2 + 1, none⟩ = some (.string ⟨(rs.getD i (0, [])).2.toArray⟩) := by
  obtain ⟨ps, ⟨g', t', cs, fuel, p, q, hg', ht', hvar, hd, _, _⟩, _⟩ := h
  obtain rfl := Option.some.inj (hn.symm.trans hg')
  obtain rfl := Option.some.inj (ht.symm.trans ht')
  rcases open_slice Tryz.underlying358 hd with ⟨_, hx⟩ | ⟨a, len, cap, m, k, D, Pl, hcs, _, hl, hm, hmm, hx, hV⟩
  · exact absurd (congrArg Prod.fst hx) (by simp)
  have hx1 := congrArg Prod.fst hx
  dsimp only at hx1
  obtain ⟨e1, e2⟩ := DataW.slice.inj hx1
  have l1 : rs.length = len := by
    have := congrArg List.length e1
    simpa using this
  have l2 : m - len = 0 := by
    have := congrArg List.length e2
    simpa using this.symm
  rw [if_pos rfl] at hmm
  have hcap : cap = len := by omega
  rw [cells357] at hV
  have key : ∀ i, i < rs.length → W.cell? ((a.add (i * 2)).add 0) = some (.int .i64 (rs.getD i (0, [])).1) ∧ W.cell? ((a.add (i * 2)).add 1) = some (.string ⟨(rs.getD i (0, [])).2.toArray⟩) := by
    intro i hi
    obtain ⟨cs', h1, h2⟩ := hV i (by omega)
    obtain ⟨_, hlen, hcell⟩ := World.cells?_some h1
    obtain ⟨f0, f1, hu, t0, o0, t1, o1⟩ := u357
    obtain ⟨ys, k2, _, hy, hyl, hyn, hg⟩ := DataW.trod_struct hu h2
    have g0 := hg 0 f0 rfl
    have g1 := hg 1 f1 rfl
    rw [t0, o0, cells3] at g0
    rw [t1, o1, cells9] at g1
    match ys, hyn with
    | [y0, y1], _ =>
      obtain ⟨n0, c0, rfl, _⟩ := DataW.trod_int Tryz.underlying3 g0
      obtain ⟨s1, c1, rfl, _⟩ := DataW.trod_string Tryz.underlying9 g1
      have h4 := congrArg (fun l => l[i]?) e1
      have hil : i < len := by omega
      simp only [List.getElem?_map, List.getElem?_range hil, List.getElem?_eq_getElem hi, Option.map_some, Option.some.injEq] at h4
      have h5 := congrArg Prod.fst hy
      dsimp only at h5
      rw [h5] at h4
      simp only [List.map_cons, List.map_nil, DataW.agg.injEq, List.cons.injEq, DataW.lit.injEq, Lit.int.injEq, Lit.string.injEq, true_and, and_true] at h4
      obtain ⟨r0, r1⟩ := h4
      have hget : rs.getD i (0, []) = rs[i] := by rw [List.getD_eq_getElem?_getD, List.getElem?_eq_getElem hi]; rfl
      rw [hget]
      have d0 : cs'[0]? = some (.int .i64 n0) := by
        have := congrArg (fun l => l[0]?) c0
        simpa [List.getElem?_take, List.getElem?_drop] using this
      have d1 : cs'[1]? = some (.string s1) := by
        have := congrArg (fun l => l[0]?) c1
        simpa [List.getElem?_take, List.getElem?_drop] using this
      refine ⟨?_, ?_⟩
      · rw [hcell 0 (by omega), d0, r0]
      · rw [hcell 1 (by omega), d1, r1]
  have h00 := (key 0 h0).1
  have e0 : (a.add (0 * 2)).add 0 = a := by unfold Addr.add; simp
  rw [e0] at h00
  have hs := spot_none h00
  have hb := World.block_lt_of_cell? W _ h00
  obtain ⟨b, o, sp⟩ := a
  dsimp only at hs hb
  subst hs
  subst hcap
  rw [l1]
  refine ⟨b, o, hb, ?_, fun i hi => ?_⟩
  · rw [World.var?_cell hn hvar 0]
    have := congrArg (fun l => l[0]?) hcs
    simpa using this
  · obtain ⟨h1, h2⟩ := key i (by omega)
    rw [add_at, add_at] at h1 h2
    exact ⟨h1, h2⟩
theorem gF32 : Tryz.prog.globalNamed "internal/strconv.float32info" = some 5 := by kernel_rfl
theorem gF64 : Tryz.prog.globalNamed "internal/strconv.float64info" = some 6 := by kernel_rfl
theorem gOpt : Tryz.prog.globalNamed "internal/strconv.optimize" = some 3 := by kernel_rfl
theorem gCheats : Tryz.prog.globalNamed "internal/strconv.leftcheats" = some 8 := by kernel_rfl
theorem gPowtab : Tryz.prog.globalNamed "internal/strconv.powtab" = some 12 := by kernel_rfl
theorem gFpow : Tryz.prog.globalNamed "internal/strconv.float64pow10" = some 13 := by kernel_rfl
theorem tOpt : (Tryz.prog.globals[3]?).map (·.type) = some 4 := by kernel_rfl
theorem tF32 : (Tryz.prog.globals[5]?).map (·.type) = some 339 := by kernel_rfl
theorem tF64 : (Tryz.prog.globals[6]?).map (·.type) = some 339 := by kernel_rfl
theorem tCheats : (Tryz.prog.globals[8]?).map (·.type) = some 358 := by kernel_rfl
theorem tPowtab : (Tryz.prog.globals[12]?).map (·.type) = some 134 := by kernel_rfl
theorem tFpow : (Tryz.prog.globals[13]?).map (·.type) = some 139 := by kernel_rfl
end Go.Proofs.YtnggkkdcddpjlaaGreatDoor
namespace Go.Proofs.YtnggkkdcddpjlaaGreatDoor
open Go.ChangeShapes Go.WideShapes Go.ChangeAt Go.RowKit Go.Deep
set_option maxRecDepth 100000
set_option linter.unusedSimpArgs false
set_option linter.unusedVariables false
theorem powtab_data' : (Rows.laid_internal_strconv_powtab : DataW Unit) = .slice (([1, 3, 6, 9, 13, 16, 19, 23, 26] : List Int).map fun z => .lit (.int .i64 z)) [] := rfl
theorem fpow_data' : (Rows.laid_internal_strconv_float64pow10 : DataW Unit) = .slice (fpList.map fun x => .lit (.float .f64 x)) [] := rfl
theorem fpow32_data : (Rows.laid_internal_strconv_float32pow10 : DataW Unit) = .slice (fpList32.map fun x => .lit (.float .f32 x)) [] := rfl
theorem cheats_data' : (Rows.laid_internal_strconv_leftcheats : DataW Unit) = .slice (Pinned.cheatRows.map fun x => .agg [.lit (.int .i64 x.1), .lit (.string x.2)]) [] := rfl
theorem cheats_len' : Pinned.cheatRows.length = 61 := by kernel_rfl
theorem ks12_lt' : ∀ k, k ∈ ks12 → k < 61 := by decide
theorem tab9' : ∀ i : Nat, i < 9 → tabN (i : Int) = ([1, 3, 6, 9, 13, 16, 19, 23, 26] : List Nat).getD i 0 := fun i hi => by
  have h : ¬ (9 : Int) ≤ i := by omega
  unfold tabN
  rw [if_neg h]
  rfl
theorem int9' : ∀ i : Nat, i < 9 → ∀ z, (([1, 3, 6, 9, 13, 16, 19, 23, 26] : List Int))[i]? = some z → z = ((([1, 3, 6, 9, 13, 16, 19, 23, 26] : List Nat).getD i 0 : Nat) : Int) := fun i hi z hz => by
  have h : i = 0 ∨ i = 1 ∨ i = 2 ∨ i = 3 ∨ i = 4 ∨ i = 5 ∨ i = 6 ∨ i = 7 ∨ i = 8 := by omega
  rcases h with rfl | rfl | rfl | rfl | rfl | rfl | rfl | rfl | rfl <;> exact (Option.some.inj hz).symm
theorem flow_of' {W : World} {r1 r2 : List (String × DataW Unit)} (h1 : laidMet Tryz.prog (("internal/strconv.powtab", Rows.laid_internal_strconv_powtab) :: r1) W) (h2 : laidMet Tryz.prog (("internal/strconv.leftcheats", Rows.laid_internal_strconv_leftcheats) :: r2) W) : Flow W.heap.size W := by
  rw [powtab_data'] at h1
  rw [cheats_data'] at h2
  obtain ⟨b, o, hb, hc, hx⟩ := slice_at h1 gPowtab tPowtab Tryz.underlying134 cells3 (by simp)
  obtain ⟨b2, o2, hb2, hc2, hx2⟩ := rows_at h2 gCheats tCheats (by rw [cheats_len']; omega)
  have hbig : 12 < W.heap.size := World.block_lt_of_cell? W _ hc
  have e9 : (List.map (fun z => (DataW.lit (Lit.int IntKind.i64 z) : DataW Unit)) ([1, 3, 6, 9, 13, 16, 19, 23, 26] : List Int)).length = 9 := by simp
  rw [e9] at hc hx
  rw [cheats_len'] at hc2 hx2
  refine ⟨hbig, ⟨b, o, hb, hc, fun i hi => ?_⟩, fun k hk => ⟨by omega, b2, o2, hb2, hc2, (hx2 k (ks12_lt' k hk)).1, (hx2 k (ks12_lt' k hk)).2⟩⟩
  obtain ⟨V, d, Pl, m, g1, g2, g3⟩ := hx i hi
  obtain ⟨n, e1, e2, _⟩ := DataW.trod_int Tryz.underlying3 g2
  obtain rfl := (List.cons.inj e1).1
  obtain rfl := (Prod.mk.inj e2).1
  rw [g1]
  rw [List.getElem?_map] at g3
  obtain ⟨z, hz, hz2⟩ := Option.map_eq_some_iff.1 g3
  have e3 : z = n := by simpa using hz2
  subst e3
  rw [int9' i hi z hz, tab9' i hi]
theorem fpow_of' {W : World} {r1 : List (String × DataW Unit)} (h1 : laidMet Tryz.prog (("internal/strconv.float64pow10", Rows.laid_internal_strconv_float64pow10) :: r1) W) (h2 : W.cell? ⟨6, 0, none⟩ = some (.int .u64 52)) : FPow fpTab W := by
  rw [fpow_data'] at h1
  have e23 : (fpList.map fun x => (DataW.lit (Lit.float FloatKind.f64 x) : DataW Unit)).length = 23 := by simp [fpList]
  obtain ⟨b, o, hb, hc, hx⟩ := slice_at h1 gFpow tFpow Tryz.underlying139 cells25 (by rw [e23]; omega)
  have hbig : 13 < W.heap.size := World.block_lt_of_cell? W _ hc
  rw [e23] at hc hx
  refine ⟨h2, b, o, hbig, hb, hc, fun i hi => ?_⟩
  obtain ⟨V, d, Pl, m, g1, g2, g3⟩ := hx i hi
  obtain ⟨n, e1, e2⟩ := trod_float3 Tryz.underlying25 g2
  obtain rfl := (List.cons.inj e1).1
  obtain rfl := (Prod.mk.inj e2).1
  rw [g1]
  rw [List.getElem?_map] at g3
  obtain ⟨z, hz, hz2⟩ := Option.map_eq_some_iff.1 g3
  have e3 : z = n := by simpa using hz2
  subst e3
  unfold fpTab
  rw [List.getD_eq_getElem?_getD, hz]
  rfl
theorem gFpow32 : Tryz.prog.globalNamed "internal/strconv.float32pow10" = some 11 := by kernel_rfl
theorem tFpow32 : (Tryz.prog.globals[11]?).map (·.type) = some 362 := by kernel_rfl
theorem cells66 : Tryz.prog.cellsOf 66 = 1 := by kernel_rfl
theorem fpow32_of {W : World} {r1 : List (String × DataW Unit)} (h1 : laidMet Tryz.prog (("internal/strconv.float32pow10", Rows.laid_internal_strconv_float32pow10) :: r1) W) : FPow32 fpTab32 W := by
  rw [fpow32_data] at h1
  have e11 : (fpList32.map fun x => (DataW.lit (Lit.float FloatKind.f32 x) : DataW Unit)).length = 11 := by simp [fpList32]
  obtain ⟨b, o, hb, hc, hx⟩ := slice_at h1 gFpow32 tFpow32 Tryz.underlying362 cells66 (by rw [e11]; omega)
  have hbig : 11 < W.heap.size := World.block_lt_of_cell? W _ hc
  rw [e11] at hc hx
  refine ⟨b, o, hbig, hb, hc, fun i hi => ?_⟩
  obtain ⟨V, d, Pl, m, g1, g2, g3⟩ := hx i hi
  obtain ⟨n, e1, e2⟩ := trod_float3 Tryz.underlying66 g2
  obtain rfl := (List.cons.inj e1).1
  obtain rfl := (Prod.mk.inj e2).1
  rw [g1]
  rw [List.getElem?_map] at g3
  obtain ⟨z, hz, hz2⟩ := Option.map_eq_some_iff.1 g3
  have e3 : z = n := by simpa using hz2
  subst e3
  unfold fpTab32
  rw [List.getD_eq_getElem?_getD, hz]
  rfl
theorem pws_of_list {w : World} (h : laidMetH Tryz.prog Rows.fnGetFloatsRow.laid w) : Good w ∧ PW w ∧ PW32 w := by
  rw [MakeChecks.laidMetH_plain _ _ _ (by kernel_rfl)] at h
  have h32 := h.tail.tail
  have h64 := h32.tail
  have hop := h64.tail
  have hpw := hop.tail
  have hfp := hpw.tail
  have hfp32 := hfp.tail
  have hu := hfp32.tail
  have hrg := hu.tail
  have hsy := hrg.tail
  have hch := hsy.tail
  have hp10 := hch.tail
  obtain ⟨b5, n0, n1, n2⟩ := info_at h32 gF32 tF32
  obtain ⟨b6, m0, m1, m2⟩ := info_at h64 gF64 tF64
  have hF := fpow_of' hfp m0
  obtain ⟨g, o, h13, _, _, _⟩ := hF.tab
  have hfl := flow_of' hpw hch
  have hb := bool_at hop gOpt tOpt
  exact ⟨good_of w (blocks w h.tail) hu hrg hsy, ⟨pow_at hp10, hF, ⟨m0, m1, m2⟩, ⟨b5, b6⟩, hfl, hb, by omega⟩, ⟨pow_at hp10, fpow32_of hfp32, ⟨n0, n1, n2⟩, ⟨b5, b6⟩, hfl, hb, by omega⟩⟩
/-- A []string as an argument. -/
theorem open_texts {H : Type} {enc : TypeId × Value → H} {w : World} {spare : Nat → Bool} {held : Bool} {v : Value} {d : DataW H} {p : List MemPlace} {base0 : Nat} {r : Reach}
    (hv : Value.okWide Tryz.prog w r base0 64 v) (h : DataW.Trod enc Tryz.prog w 0 spare held 64 v d p) :
    ∃ pv n c ss, v = .slice pv n c ∧ Texts w pv n ss := by
  obtain ⟨fuel, hf⟩ := h
  obtain ⟨a0, len, cap, rfl⟩ := okWide_slice Tryz.underlying64 hv
  rcases open_strings Tryz.underlying64 Tryz.underlying9 cells9 hf with ⟨hcs, hx⟩ | ⟨a, len', cap', ss, hcs, _, hl, hm, hz, hx, hcell, hws⟩
  · simp [Value.cells] at hcs
    obtain ⟨rfl, rfl, rfl⟩ := hcs
    exact ⟨none, 0, 0, fun _ => ByteArray.empty, rfl, by omega, fun i hi => by omega⟩
  · simp [Value.cells] at hcs
    obtain ⟨rfl, rfl, rfl⟩ := hcs
    have hlen : len ≤ ss.length := by
      rw [hz]
      split <;> omega
    unfold maxLen at hm
    exact ⟨some a, len, cap, fun i => ss.getD i ByteArray.empty, rfl, by omega, fun i hi => ⟨a, rfl, hcell i (by omega)⟩⟩
end Go.Proofs.YtnggkkdcddpjlaaGreatDoor
