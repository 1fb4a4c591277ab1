/- The words of this claim's walks: what every world of a call holds of the listed variables ('Good'), and that calls keep it ('Below'). -/
import Derived.Test.YtnggkkdcddpjlaaGreatDoorShelf
import Derived.WalkKit
import Derived.WalkLawsBesides
import Derived.WalkSpells
import Derived.Laws.FloatArith
import Derived.Lib.LaidTab
import Derived.Lib.Hide
import Derived.Deep.QuietTactic
import Derived.BigQuiet
namespace Go.Proofs.YtnggkkdcddpjlaaGreatDoor
open Go.RowKit

theorem gSyn : Tryz.prog.globalNamed "strconv.ErrSyntax" = some 1 := by kernel_rfl
theorem gRng : Tryz.prog.globalNamed "strconv.ErrRange" = some 2 := by kernel_rfl
theorem gPow : Tryz.prog.globalNamed "internal/strconv.uint64pow10" = some 4 := by kernel_rfl

/-- What a world holds of the listed variables that these walks read. -/
structure Good (w : World) : Prop where
  big : 11 ≤ w.heap.size
  syn : ∃ tp p, w.var? Tryz.prog "strconv.ErrSyntax" = some #[.iface tp p]
  rng : ∃ tp p, w.var? Tryz.prog "strconv.ErrRange" = some #[.iface tp p]
  tab : Lib.TabIs Tryz.prog w "internal/strconv.uint64pow10" .u64 Lib.pow10Tab

theorem var_of_block {w w' : World} {n : String} {g : Nat} (hg : Tryz.prog.globalNamed n = some g) (h : w'.heap[g]? = w.heap[g]?) : w'.var? Tryz.prog n = w.var? Tryz.prog n := by
  unfold World.var?
  rw [hg]
  simp only [Option.bind_some]
  rw [h]

theorem Good.keep {w w' : World} {B : Nat} (h : Good w) (hb : Below B w w') (hB : 11 ≤ B) : Good w' := by
  refine ⟨Nat.le_trans h.big hb.size, ?_, ?_, ?_⟩
  · obtain ⟨tp, p, e⟩ := h.syn
    exact ⟨tp, p, by rw [var_of_block gSyn (hb.block 1 (by omega))]; exact e⟩
  · obtain ⟨tp, p, e⟩ := h.rng
    exact ⟨tp, p, by rw [var_of_block gRng (hb.block 2 (by omega))]; exact e⟩
  · have e := h.tab
    unfold Lib.TabIs at e ⊢
    rw [var_of_block gPow (hb.block 4 (by omega))]
    exact e

theorem Good.on {w w' : World} (h : Good w) (hb : Below w.heap.size w w') : Good w' := h.keep hb h.big

theorem below_grow (w : World) (n : Nat) (os : Array Obj) : Below w.heap.size w (Sort.grow (w.drewN n) os) := by
  refine ⟨rfl, rfl, rfl, ?_, fun k hk => ?_⟩
  · show w.heap.size ≤ (w.heap ++ os).size
    simp
  · show (w.heap ++ os)[k]? = w.heap[k]?
    rw [Array.getElem?_append_left hk]

theorem belowOn {a b c : World} (h : Below a.heap.size a b) (k : Below b.heap.size b c) : Below a.heap.size a c := h.trans (k.mono h.size)

theorem below_alloc (w : World) (o : Obj) : Below w.heap.size w (w.alloc o) := (Below.refl _ _).alloc (Nat.le_refl _) o
theorem below_drewN (w : World) (n : Nat) : Below w.heap.size w (w.drewN n) := ⟨rfl, rfl, rfl, Nat.le_refl _, fun _ _ => rfl⟩

theorem ret_eq {a b : Value} (h : a = b) : Ending.returned a = Ending.returned b := by rw [h]
end Go.Proofs.YtnggkkdcddpjlaaGreatDoor
