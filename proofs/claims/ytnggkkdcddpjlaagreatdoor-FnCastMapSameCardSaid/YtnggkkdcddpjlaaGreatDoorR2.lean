/- From the row's list to the table of powers of ten. -/
import Derived.Test.YtnggkkdcddpjlaaGreatDoorR0
import Derived.Test.YtnggkkdcddpjlaaGreatDoorD1
namespace Go.Proofs.YtnggkkdcddpjlaaGreatDoor
open Go.ChangeShapes Go.WideShapes Go.ChangeAt Go.RowKit
set_option maxRecDepth 100000
theorem gP10 : Tryz.prog.globalNamed "internal/strconv.pow10Tab" = some 7 := by kernel_rfl
theorem gP10T : (Tryz.prog.globals[7]?).map (·.type) = some 352 := by kernel_rfl
theorem u352 : Tryz.prog.underlying 352 = some (.array 696 351) := Tryz.underlying352
theorem u351 : ∃ f0 f1, Tryz.prog.underlying 351 = some (.struct #[f0, f1]) ∧ f0.type = 24 ∧ f0.offset = 0 ∧ f1.type = 24 ∧ f1.offset = 1 := ⟨_, _, Tryz.underlying351, rfl, rfl, rfl, rfl⟩
theorem cells351 : Tryz.prog.cellsOf 351 = 2 := by kernel_rfl
theorem rows_len : Pinned.pow10Rows.length = 696 := by kernel_rfl
theorem pow_at {W : World} {rest : List (String × DataW Unit)} (h : laidMet Tryz.prog (("internal/strconv.pow10Tab", Rows.laid_internal_strconv_pow10Tab) :: rest) W) : PowAt W := by
  obtain ⟨ps, ⟨g', t', cs, fuel, p, q, hg', ht', hvar, hd, _, _⟩, _⟩ := h
  obtain rfl := Option.some.inj (gP10.symm.trans hg')
  obtain rfl := Option.some.inj (gP10T.symm.trans ht')
  obtain ⟨xs, m, _, hx, hlen, hxl, hf⟩ := DataW.trod_array u352 hd
  obtain ⟨f0, f1, hu, t0, o0, t1, o1⟩ := u351
  have key : ∀ i, i < 696 → cs[i * 2]? = some (.int .u64 (pHi i)) ∧ cs[i * 2 + 1]? = some (.int .u64 (pLo i)) := by
    intro i hi
    have h1 := hf i hi
    rw [cells351] at h1
    have hxi : i < xs.length := by omega
    rw [List.getElem?_eq_getElem hxi] at h1
    obtain ⟨ys, n, _, hy, hyl, hyn, hg⟩ := DataW.trod_struct hu h1
    have g0 := hg 0 f0 rfl
    have g1 := hg 1 f1 rfl
    rw [t0, o0, cells24] at g0
    rw [t1, o1, cells24] at g1
    match ys, hyn with
    | [y0, y1], _ =>
      obtain ⟨n0, c0, rfl, _⟩ := DataW.trod_int Tryz.underlying24 g0
      obtain ⟨n1, c1, rfl, _⟩ := DataW.trod_int Tryz.underlying24 g1
      have hd2 : (Rows.laid_internal_strconv_pow10Tab : DataW Unit) = .agg (xs.map (·.1)) := congrArg Prod.fst hx
      have hd3 : xs.map (·.1) = Pinned.pow10Rows.map fun x => (.agg [.lit (.int .u64 x.1), .lit (.int .u64 x.2)] : DataW Unit) := by
        have h2 : (Rows.laid_internal_strconv_pow10Tab : DataW Unit) = .agg (Pinned.pow10Rows.map fun x => .agg [.lit (.int .u64 x.1), .lit (.int .u64 x.2)]) := rfl
        rw [h2] at hd2
        exact (DataW.agg.inj hd2).symm
      have hi2 : i < Pinned.pow10Rows.length := by rw [rows_len]; exact hi
      have h4 := congrArg (fun l => l[i]?) hd3
      simp only [List.getElem?_map, List.getElem?_eq_getElem hxi, List.getElem?_eq_getElem hi2, Option.map_some, Option.some.injEq] at h4
      rw [hy] at h4
      simp only [List.map_cons, List.map_nil, DataW.agg.injEq, List.cons.injEq, DataW.lit.injEq, Lit.int.injEq, true_and, and_true] at h4
      obtain ⟨e0, e1⟩ := h4
      have d0 : cs[i * 2]? = some (.int .u64 n0) := by
        have := congrArg (fun l => l[0]?) c0
        simpa [List.getElem?_take, List.getElem?_drop] using this
      have d1 : cs[i * 2 + 1]? = some (.int .u64 n1) := by
        have := congrArg (fun l => l[0]?) c1
        simpa [List.getElem?_take, List.getElem?_drop] using this
      unfold pHi pLo
      rw [List.getD_eq_getElem?_getD, List.getElem?_eq_getElem hi2]
      refine ⟨?_, ?_⟩
      · rw [d0, e0]; rfl
      · rw [d1, e1]; rfl
  refine ⟨fun i hi => ?_, fun i hi => ?_⟩
  · rw [World.var?_cell gP10 hvar (i * 2)]
    simpa using (key i hi).1
  · rw [World.var?_cell gP10 hvar (i * 2 + 1)]
    simpa using (key i hi).2
theorem pow_of_list {w : World} (h : laidMetH Tryz.prog Rows.fnCastMapSameRow.laid w) : PowAt w := by
  rw [MakeChecks.laidMetH_plain _ _ _ (by kernel_rfl)] at h
  exact pow_at h.tail.tail.tail.tail.tail.tail.tail
end Go.Proofs.YtnggkkdcddpjlaaGreatDoor
