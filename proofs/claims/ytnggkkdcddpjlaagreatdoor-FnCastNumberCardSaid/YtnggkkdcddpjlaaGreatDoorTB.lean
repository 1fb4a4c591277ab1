/- More of the walk's laws: stores of floats, maps and interface values; structs that lie in a block of their own. -/
import Derived.Test.YtnggkkdcddpjlaaGreatDoorTA
import Derived.Test.YtnggkkdcddpjlaaGreatDoorC1
import Derived.BigGuardPart
import Derived.Laws.CopyOwn
import Derived.StillTailTactics
namespace Go.Proofs.YtnggkkdcddpjlaaGreatDoor
open Go.RowKit
set_option maxRecDepth 100000
set_option linter.unusedVariables false
section
variable {P : Program} {w : World} {a : Addr} {m : Mode}
@[go_sem] theorem run_store_float (k : FloatKind) (b : Nat) : (store a (.float k b) m).run P w = stored P w a (.float k b) m := run_store P w a _ m rfl
@[go_sem] theorem run_store_map (r : Option Nat) : (store a (.map r) m).run P w = stored P w a (.map r) m := run_store P w a _ m rfl
end
theorem size28 : (Tryz.prog.info? 28).map (·.size) = some 7 := by kernel_rfl
/-- The cells of an impl.Any. -/
abbrev anyC (k i u : Int) (f : Nat) (s : ByteArray) (l m : Value) : Array Value := #[.int .i64 k, .int .i64 i, .int .u64 u, .float .f64 f, .string s, l, m]
theorem one_any (k i u : Int) (f : Nat) (s : ByteArray) {l m : Value} (hl : l.oneCell' = true) (hm : m.oneCell' = true) : (anyC k i u f s l m).all (·.oneCell') = true := by
  simp [anyC, Value.oneCell']
  exact ⟨hl, hm⟩
theorem two_blocks {w w2 : World} {A B : Obj} (hb : Below ((w.alloc A).alloc B).heap.size ((w.alloc A).alloc B) w2) : w2.heap[w.heap.size + 1]? = some B := by
  rw [hb.block (w.heap.size + 1) (by simp)]
  exact heap_alloc2_new w A B
theorem below_two (w : World) (A B : Obj) : Below w.heap.size w ((w.alloc A).alloc B) := belowOn (below_alloc w A) (below_alloc _ B)
/-- What castWithin makes of a float: itself where it lies between -mo and mo, else 0. -/
def cutF (mo f : Nat) : Nat := if (FloatKind.f64.format.order f (Op.negFloat .f64 mo) == some .gt) && (FloatKind.f64.format.order f mo == some .lt) then f else 0
def cutK (k : Int) : Int := IntKind.i64.wrap ((IntKind.u64.wrap k).tmod 15)
def cutS (s : ByteArray) : ByteArray := s.extract 0 (min (s.size : Int) 400).toNat

theorem within_any (k i u : Int) (f mo : Nat) (s : ByteArray) (l m : Value) (w : World) :
    Calls Tryz.prog 57 #[.agg #[.int .i64 k, .int .i64 i, .int .u64 u, .float .f64 f, .string s, l, m], .float .f64 mo] w fun e w' => e = .returned (.agg #[.int .i64 (cutK k), .int .i64 i, .int .u64 u, .float .f64 (cutF mo f), .string (cutS s), .slice none 0 0, .slice none 0 0]) ∧ Below w.heap.size w w' := by
  obtain ⟨b1, h1⟩ : ∃ b1, (FloatKind.f64.format.order f (Op.negFloat .f64 mo) == some .gt) = b1 := ⟨_, rfl⟩
  obtain ⟨b2, h2⟩ : ∃ b2, (FloatKind.f64.format.order f mo == some .lt) = b2 := ⟨_, rfl⟩
  have hneg : ∀ b w, (Op.unary .neg (.float .f64 b)).run Tryz.prog w = .ok (.float .f64 (Op.negFloat .f64 b)) w := fun _ _ => rfl
  have hC : Hid (cutF mo f = if b1 && b2 then f else 0) := by unfold cutF; rw [h1, h2]; rfl
  obtain ⟨K, hK⟩ : ∃ K, cutK k = K := ⟨_, rfl⟩
  obtain ⟨S, hS⟩ : ∃ S, cutS s = S := ⟨_, rfl⟩
  rw [hK, hS]
  have hK' : IntKind.i64.wrap ((IntKind.u64.wrap k).tmod 15) = K := hK
  have hS' : s.extract 0 (min (s.size : Int) 400).toNat = S := hS
  clear hK hS
  have hq : min (s.size : Int) 400 ≤ s.size := by omega
  have hq0 : 0 ≤ min (s.size : Int) 400 := by omega
  go_enter Tryz.func57, Tryz.ntmps57
  go_wp2_with fail
  generalize hW : World.alloc (World.alloc w _) _ = W
  have hc0 : W.cell? ⟨w.heap.size, 0, none⟩ = some (.int .i64 k) := by rw [← hW]; simp
  have hc1 : W.cell? ⟨w.heap.size, 1, none⟩ = some (.int .i64 i) := by rw [← hW]; simp
  have hc2 : W.cell? ⟨w.heap.size, 2, none⟩ = some (.int .u64 u) := by rw [← hW]; simp
  have hc3 : W.cell? ⟨w.heap.size, 3, none⟩ = some (.float .f64 f) := by rw [← hW]; simp
  have hc4 : W.cell? ⟨w.heap.size, 4, none⟩ = some (.string s) := by rw [← hW]; simp
  have HW := Lib.hid hW
  clear hW
  go_still_tail 19, (by kernel_rfl)
  have hb0 : W.drew.heap[w.heap.size]? = some (.cells (anyC k i u f s l m) 28 (0, 0)) := by
    show W.heap[w.heap.size]? = _
    rw [← HW.out]
    exact heap_alloc2_old w _ _
  have HB := Lib.hid hb0
  clear hb0
  go_wp2_with (refine wpList_store_row rfl 28 (.tmp 2) (.tmp 23) rfl w.heap.size (anyC K i u f S (.slice none 0 0) (.slice none 0 0)) rfl rfl 28 _ HB.out size28 rfl (one_any _ _ _ _ _ rfl rfl) ?_; refine Hid.out ?_)
  generalize hW2 : World.setRow _ _ _ = W2
  refine Lib.hid ?_
  have hb2 : W2.heap[w.heap.size]? = some (.cells (anyC K i u f S (.slice none 0 0) (.slice none 0 0)) 28 (0, 0)) := by
    rw [← hW2]
    exact setRow_heap _ _ _ _ _ _ HB.out
  have hb3 : W2.heap[w.heap.size + 1]? = some (.cells #[.int .i64 0, .int .i64 0, .int .u64 0, .float .f64 0, .string ⟨#[]⟩, .slice none 0 0, .slice none 0 0] 28 (0, 0)) := by
    rw [← hW2, setRow_other _ _ _ _ (by omega)]
    show W.heap[w.heap.size + 1]? = _
    rw [← HW.out]
    exact heap_alloc2_new w _ _
  have hbel : Below w.heap.size w W2 := by
    rw [← hW2]
    refine below_setRow ?_ (Nat.le_refl _) _
    rw [← HW.out]
    exact (below_two w _ _).drew
  have hd3 : W2.cell? ⟨w.heap.size, 3, none⟩ = some (.float .f64 f) := by simp [World.cell?, hb2]
  have hf3 : W2.frozen? ⟨w.heap.size, 3, none⟩ = false := by simp [World.frozen?, hb2]
  have HB2 := Lib.hid hb2
  have HB3 := Lib.hid hb3
  clear hb2 hb3 hW2 hc0 hc1 hc2 hc3 hc4 HB HW
  cases b1 <;> cases b2
  case true.true =>
    go_wp2_with (first | (refine wpList_load_row rfl 28 (.tmp 2) rfl w.heap.size rfl 28 (anyC K i u f S (.slice none 0 0) (.slice none 0 0)) (0, 0) _ HB2.out Tryz.underlying28 rfl size28 ?_) | (refine wpList_store_row rfl 28 (.tmp 4) (.tmp 37) rfl (w.heap.size + 1) (anyC K i u f S (.slice none 0 0) (.slice none 0 0)) rfl rfl 28 _ HB3.out size28 rfl (one_any _ _ _ _ _ rfl rfl) ?_))
    have hS := setRow_heap W2 (w.heap.size + 1) _ (anyC K i u f S (.slice none 0 0) (.slice none 0 0)) 28 (0, 0) HB3.out
    rw [hC.out]
    refine bodyPost_ret (v := .agg (anyC K i u f S (.slice none 0 0) (.slice none 0 0))) (results_cell_row rfl _ _ _ _ _ _ _ rfl hS Tryz.underlying28 rfl size28) rfl ⟨rfl, ?_⟩
    exact below_setRow hbel (by omega) _
  all_goals
    have hset : W2.setCell ⟨w.heap.size, 3, none⟩ (.float .f64 0) = W2.setRow w.heap.size (anyC K i u 0 S (.slice none 0 0) (.slice none 0 0)) := setCell_eq_setRow W2 w.heap.size 3 _ 28 (0, 0) _ HB2.out
    have hB4 : (W2.setRow w.heap.size (anyC K i u 0 S (.slice none 0 0) (.slice none 0 0))).heap[w.heap.size]? = some (.cells (anyC K i u 0 S (.slice none 0 0) (.slice none 0 0)) 28 (0, 0)) := setRow_heap _ _ _ _ _ _ HB2.out
    have hB5 : (W2.setRow w.heap.size (anyC K i u 0 S (.slice none 0 0) (.slice none 0 0))).heap[w.heap.size + 1]? = some (.cells #[.int .i64 0, .int .i64 0, .int .u64 0, .float .f64 0, .string ⟨#[]⟩, .slice none 0 0, .slice none 0 0] 28 (0, 0)) := by rw [setRow_other _ _ _ _ (by omega)]; exact HB3.out
    have HB4 := Lib.hid hB4
    have HB5 := Lib.hid hB5
    clear hB4 hB5
    go_wp2_with (first | (refine wpList_load_row rfl 28 (.tmp 2) rfl w.heap.size rfl 28 (anyC K i u 0 S (.slice none 0 0) (.slice none 0 0)) (0, 0) _ HB4.out Tryz.underlying28 rfl size28 ?_) | (refine wpList_store_row rfl 28 (.tmp 4) (.tmp 37) rfl (w.heap.size + 1) (anyC K i u 0 S (.slice none 0 0) (.slice none 0 0)) rfl rfl 28 _ HB5.out size28 rfl (one_any _ _ _ _ _ rfl rfl) ?_))
    have hS := setRow_heap _ (w.heap.size + 1) _ (anyC K i u 0 S (.slice none 0 0) (.slice none 0 0)) 28 (0, 0) HB5.out
    rw [hC.out]
    refine bodyPost_ret (v := .agg (anyC K i u 0 S (.slice none 0 0) (.slice none 0 0))) (results_cell_row rfl _ _ _ _ _ _ _ rfl hS Tryz.underlying28 rfl size28) rfl ⟨rfl, ?_⟩
    exact below_setRow (below_setRow hbel (Nat.le_refl _) _) (by omega) _

theorem plain_any (k i u : Int) (f : Nat) (s : ByteArray) (l m : Value) (w : World) :
    Calls Tryz.prog 38 #[.agg #[.int .i64 k, .int .i64 i, .int .u64 u, .float .f64 f, .string s, l, m]] w fun e w' => e = .returned (.agg #[.int .i64 (cutK k), .int .i64 i, .int .u64 u, .float .f64 (cutF 4881901996069617664 f), .string (cutS s), .slice none 0 0, .slice none 0 0]) ∧ Below w.heap.size w w' := by
  have hW := fun w => within_any k i u f 4881901996069617664 s l m w
  obtain ⟨k2, hk2⟩ : ∃ k2, k2 = cutK k := ⟨_, rfl⟩
  obtain ⟨f2, hf2⟩ : ∃ f2, f2 = cutF 4881901996069617664 f := ⟨_, rfl⟩
  obtain ⟨s2, hs2⟩ : ∃ s2, s2 = cutS s := ⟨_, rfl⟩
  rw [← hk2, ← hf2, ← hs2] at hW ⊢
  clear hk2 hf2 hs2
  have HW := Lib.hid hW
  clear hW
  go_enter Tryz.func38, Tryz.ntmps38
  go_wp2_with (first | (go_at_call 57; refine (HW.out _).mono ?_; rintro e w2 ⟨rfl, hb⟩; have hB := Lib.hid (two_blocks hb)) | (refine wpList_store_row rfl 28 (.tmp 2) (.tmp 4) rfl (w.heap.size + 1) (anyC k2 i u f2 s2 (.slice none 0 0) (.slice none 0 0)) rfl rfl 28 _ hB.out size28 rfl (one_any _ _ _ _ _ rfl rfl) ?_))
  have hS := setRow_heap w2 (w.heap.size + 1) _ (anyC k2 i u f2 s2 (.slice none 0 0) (.slice none 0 0)) 28 (0, 0) hB.out
  refine bodyPost_ret (v := .agg (anyC k2 i u f2 s2 (.slice none 0 0) (.slice none 0 0))) (results_cell_row rfl _ _ _ _ _ _ _ rfl hS Tryz.underlying28 rfl size28) rfl ⟨rfl, ?_⟩
  exact below_setRow (belowOn (below_two w _ _) hb) (by omega) _
end Go.Proofs.YtnggkkdcddpjlaaGreatDoor
