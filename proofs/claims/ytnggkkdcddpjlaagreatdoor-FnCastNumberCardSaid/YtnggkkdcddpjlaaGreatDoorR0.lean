/- From the row's list of package-level variables to what the walks read of them. -/
import Derived.Test.YtnggkkdcddpjlaaGreatDoorCards
import Derived.Test.YtnggkkdcddpjlaaGreatDoorTie
import Derived.Test.YtnggkkdcddpjlaaGreatDoorC0
import Derived.ProofKit
import Derived.OpenShut
import Derived.LaidMore
import Derived.Lay
import Derived.SevenTiedAt
import Derived.Stop.Joined
import Derived.Stop.LaidErr
namespace Go.Proofs.YtnggkkdcddpjlaaGreatDoor
open Go.ChangeShapes Go.WideShapes Go.ChangeAt Go.RowKit
set_option maxRecDepth 100000

theorem own : ownKnob Tryz.prog.godebug = none := by kernel_rfl
theorem star : "*" ++ "errors.errorString" = "*errors.errorString" := by decide
theorem row207 (u : TypeId) (h : Tryz.prog.typeName? 3 u = some "*errors.errorString") : u = 207 :=
  typeName_ptr_named (nm := "errors.errorString") (by rw [star]; kernel_rfl) (by kernel_rfl) (by decide) u (by rw [star]; exact h)
theorem gSynT : (Tryz.prog.globals[1]?).map (·.type) = some 73 := by kernel_rfl
theorem gRngT : (Tryz.prog.globals[2]?).map (·.type) = some 73 := by kernel_rfl
theorem cells9 : Tryz.prog.cellsOf 9 = 1 := by kernel_rfl
theorem cells24 : Tryz.prog.cellsOf 24 = 1 := by kernel_rfl
theorem cells209 : Tryz.prog.cellsOf 209 = 1 := by kernel_rfl
theorem cells305 : Tryz.prog.cellsOf 305 = 20 := by kernel_rfl
theorem gPowT : (Tryz.prog.globals[4]?).map (·.type) = some 305 := by kernel_rfl
theorem pow_data : (Rows.laid_internal_strconv_uint64pow10 : DataW Unit) = Lib.tabData .u64 Lib.pow10Tab := by kernel_rfl
theorem gBits : Tryz.prog.globalNamed "math/bits.deBruijn64tab" = some 10 := by kernel_rfl
theorem blocks (w : World) {d : DataW Unit} {r : List (String × DataW Unit)} (h : laidMet Tryz.prog (("math/bits.deBruijn64tab", d) :: r) w) : 11 ≤ w.heap.size := by
  obtain ⟨ps, ⟨g, t, cs, fuel, p, q, hg, ht, hv, _⟩, _⟩ := h
  unfold World.var? at hv
  rw [gBits] at hv
  simp only [Option.bind_some] at hv
  rcases Nat.lt_or_ge 10 w.heap.size with h1 | h1
  · exact h1
  · rw [Array.getElem?_eq_none h1] at hv
    cases hv

theorem good_of (w : World) (hb : 11 ≤ w.heap.size) {r1 r2 r3 : List (String × DataW Unit)}
    (h1 : laidMet Tryz.prog (("internal/strconv.uint64pow10", Rows.laid_internal_strconv_uint64pow10) :: r1) w)
    (h2 : laidMet Tryz.prog (("strconv.ErrRange", Rows.laid_strconv_ErrRange) :: r2) w)
    (h3 : laidMet Tryz.prog (("strconv.ErrSyntax", Rows.laid_strconv_ErrSyntax) :: r3) w) : Good w := by
  refine ⟨hb, ?_, ?_, ?_⟩
  · obtain ⟨a, s, hv, _⟩ := laid_sentinel h3 gSyn gSynT Tryz.underlying73 row207 Tryz.underlying207 Tryz.underlying209 rfl rfl Tryz.underlying9 cells209 cells9
    exact ⟨_, _, hv⟩
  · obtain ⟨a, s, hv, _⟩ := laid_sentinel h2 gRng gRngT Tryz.underlying73 row207 Tryz.underlying207 Tryz.underlying209 rfl rfl Tryz.underlying9 cells209 cells9
    exact ⟨_, _, hv⟩
  · rw [pow_data] at h1
    exact Lib.tabIs_of_head gPow gPowT Tryz.underlying305 Tryz.underlying24 cells24 cells305 h1

theorem good_of_list {w : World} (h : laidMetH Tryz.prog Rows.fnCastIntTextRow.laid w) : Good w := by
  rw [MakeChecks.laidMetH_plain _ _ _ (by kernel_rfl)] at h
  have h3 := h.tail.tail.tail
  exact good_of w (blocks w h.tail) h3 h3.tail h3.tail.tail
end Go.Proofs.YtnggkkdcddpjlaaGreatDoor
