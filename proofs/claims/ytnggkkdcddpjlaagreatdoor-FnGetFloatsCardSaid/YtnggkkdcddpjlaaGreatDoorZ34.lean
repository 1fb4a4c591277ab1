/- internal/strconv.fmtEFG at the form 'g', shortest. -/
import Derived.Test.YtnggkkdcddpjlaaGreatDoorZ33
namespace Go.Proofs.YtnggkkdcddpjlaaGreatDoor
open Go.RowKit
set_option maxRecDepth 100000
set_option linter.unusedVariables false
theorem info5 : (Tryz.prog.info? 5).map (fun i => (i.size, i.bytes, i.zero.map (·.cells.size))) = some (1, 1, some 1) := by kernel_rfl
/-- Where fmtEFG writes: a row of bytes of its own, xs; the digits lie in block db. -/
structure Dst (w0 w : World) (db nd : Nat) (D : Nat → Int) (v : Value) (xs : List Value) : Prop where
  own : w.ownsRow w0.heap.size 5 1 v xs.length xs
  below : Below w0.heap.size w0 w
  ne : v.ownBlock ≠ some db
  lt : db < w.heap.size
  dig : ∀ t, t < nd → w.cell? ⟨db, t, none⟩ = some (.int .u8 (D t))
/-- One byte more. -/
theorem Dst.app {w0 w : World} {db nd : Nat} {D : Nat → Int} {v : Value} {xs : List Value} (h : Dst w0 w db nd D v xs) {x : Value} {o : Obj} {g cap : Nat} {w' : World}
    (ho : w'.ownsRow w0.heap.size 5 1 (.slice (some ⟨g, 0, none⟩) (xs.length + 1) cap) (xs.length + 1) (xs ++ [x])) (hg : (w.alloc o).grownBy w' v.ownBlock) (ha : v.ownBlock = some g ∨ g = (w.alloc o).heap.size) :
    Dst w0 w' db nd D (.slice (some ⟨g, 0, none⟩) (xs.length + 1) cap) (xs ++ [x]) := by
  have hlt : db < w.heap.size := h.lt
  have hs : (w.alloc o).heap.size = w.heap.size + 1 := by simp
  refine ⟨by simpa using ho, (h.below.alloc h.below.size o).grown hg (Nat.le_trans h.below.size (by omega)) (fun k hk => (h.own.lt k hk).1), ?_, Nat.lt_of_lt_of_le hlt (Nat.le_trans (by omega) hg.size), fun t ht => ?_⟩
  · show some g ≠ some db
    rcases ha with ha | ha
    · rw [← ha]; exact h.ne
    · intro e
      cases e
      omega
  · rw [hg.cell_far ⟨db, t, none⟩ (by show db < (w.alloc o).heap.size; omega) (fun e => h.ne e.symm), World.cell?_of_block (Below.heap_alloc w o db hlt)]
    exact h.dig t ht
theorem info5p : ∃ i0 z0, Tryz.prog.info? 5 = some i0 ∧ i0.zero = some z0 ∧ i0.size = 1 ∧ i0.bytes = 1 ∧ z0.cells.size = 1 := by
  have h := info5
  cases hh : Tryz.prog.info? 5 with
  | none => rw [hh] at h; cases h
  | some i =>
    rw [hh] at h
    simp only [Option.map_some, Option.some.injEq, Prod.mk.injEq] at h
    obtain ⟨h1, h2, h3⟩ := h
    cases hz : i.zero with
    | none => rw [hz] at h3; cases h3
    | some z => rw [hz] at h3; exact ⟨i, z, rfl, hz, h1, h2, Option.some.inj h3⟩
/-- The walk's arm for 'dst = append(dst, c)'. -/
theorem wpList_dst {ops : Array Oper} {rest : List Oper} {op : Oper} {a : Act} {Q : Exit → Act → World → Prop} {w0 w : World} {db nd : Nat} {D : Nat → Int} {v : Value} {xs : List Value} {c : Value} (hgd : op.guard = none) (s x : Operand)
    (ho : op.op = .call { callee := .builtin .append, args := #[s, x], argTypes := #[130, 130] }) (hs : a.eval s = v) (h : Dst w0 w db nd D v xs) {W : World} (hW : W = w.alloc (.cells #[c] 5)) (hx : a.eval x = .slice (some ⟨w.heap.size, 0, none⟩) 1 1) (h1 : c.oneCell' = true) (hl : xs.length ≤ 3000)
    (k : ∀ g cap w', Dst w0 w' db nd D (.slice (some ⟨g, 0, none⟩) (xs.length + 1) cap) (xs ++ [c]) → wpList Tryz.prog ops Q rest (a.put op.dst (.slice (some ⟨g, 0, none⟩) (xs.length + 1) cap)) w') :
    wpList Tryz.prog ops Q (op :: rest) a W := by
  subst hW
  obtain ⟨i0, z0, hi0, hz0, hs0, hb0, hzs⟩ := info5p
  exact wpList_append_lies (w.alloc (.cells #[c] 5)) hgd s x 130 ho w0.heap.size 5 i0 z0 1 1 Tryz.underlying130 hi0 hz0 hs0 hb0 hzs (by omega) v xs.length xs hs (h.own.alloc _) ⟨w.heap.size, 0, none⟩ 1 1 [c] hx rfl
    (World.news_of_block (cs := #[c]) (t := 5) (fr := (0, 0)) (heap_alloc_new w _)) (by simpa using h1) (by omega) (by simp only [maxLen]; omega) (by omega) (by have := h.below.size; simp; omega) (w.alloc (.cells #[c] 5)).heap.size rfl
    (fun g cap w' h2 h3 h4 _ => k g cap w' (h.app h2 h3 h4))
def bt (x : Int) : Value := .int .u8 x
/-- Bytes more. -/
theorem Dst.appL {w0 w W : World} {db nd : Nat} {D : Nat → Int} {v : Value} {xs news : List Value} (h : Dst w0 w db nd D v xs) (hW : W = w ∨ ∃ o, W = w.alloc o) {g cap : Nat} {w' : World}
    (ho : w'.ownsRow w0.heap.size 5 1 (.slice (some ⟨g, 0, none⟩) (xs.length + news.length) cap) (xs.length + news.length) (xs ++ news)) (hg : W.grownBy w' v.ownBlock) (ha : v.ownBlock = some g ∨ g = W.heap.size) :
    Dst w0 w' db nd D (.slice (some ⟨g, 0, none⟩) (xs.length + news.length) cap) (xs ++ news) := by
  have hlt : db < w.heap.size := h.lt
  have hs : w.heap.size ≤ W.heap.size := by
    rcases hW with rfl | ⟨o, rfl⟩
    · exact Nat.le_refl _
    · simp
  have hB : Below w0.heap.size w0 W := by
    rcases hW with rfl | ⟨o, rfl⟩
    · exact h.below
    · exact h.below.alloc h.below.size o
  have hc : ∀ t, W.cell? ⟨db, t, none⟩ = w.cell? ⟨db, t, none⟩ := fun t => by
    rcases hW with rfl | ⟨o, rfl⟩
    · rfl
    · exact World.cell?_of_block (Below.heap_alloc w o db hlt)
  refine ⟨by simpa using ho, hB.grown hg (Nat.le_trans h.below.size hs) (fun k hk => (h.own.lt k hk).1), ?_, Nat.lt_of_lt_of_le hlt (Nat.le_trans hs hg.size), fun t ht => ?_⟩
  · show some g ≠ some db
    rcases ha with ha | ha
    · rw [← ha]; exact h.ne
    · intro e
      cases e
      omega
  · rw [hg.cell_far ⟨db, t, none⟩ (by show db < W.heap.size; omega) (fun e => h.ne e.symm), hc]
    exact h.dig t ht
/-- The walk's arm for 'dst = append(dst, c, ..)'. -/
theorem wpList_dsts {ops : Array Oper} {rest : List Oper} {op : Oper} {a : Act} {Q : Exit → Act → World → Prop} {w0 w : World} {db nd : Nat} {D : Nat → Int} {v : Value} {xs : List Value} (cs : List Value) (hgd : op.guard = none) (s x : Operand)
    (ho : op.op = .call { callee := .builtin .append, args := #[s, x], argTypes := #[130, 130] }) (hs : a.eval s = v) (h : Dst w0 w db nd D v xs) {W : World} (n : Nat) (hn : cs.length = n) (hn0 : 0 < n) (hn1 : n ≤ 40) (hW : W = w.alloc (.cells cs.toArray 5)) (hx : a.eval x = .slice (some ⟨w.heap.size, 0, none⟩) n n) (h1 : ∀ u ∈ cs, u.oneCell' = true) (hl : xs.length ≤ 3000)
    (k : ∀ g cap w', Dst w0 w' db nd D (.slice (some ⟨g, 0, none⟩) (xs.length + n) cap) (xs ++ cs) → wpList Tryz.prog ops Q rest (a.put op.dst (.slice (some ⟨g, 0, none⟩) (xs.length + n) cap)) w') :
    wpList Tryz.prog ops Q (op :: rest) a W := by
  subst hW hn
  obtain ⟨i0, z0, hi0, hz0, hs0, hb0, hzs⟩ := info5p
  exact wpList_append_lies (w.alloc (.cells cs.toArray 5)) hgd s x 130 ho w0.heap.size 5 i0 z0 1 1 Tryz.underlying130 hi0 hz0 hs0 hb0 hzs (by omega) v xs.length xs hs (h.own.alloc _) ⟨w.heap.size, 0, none⟩ cs.length cs.length cs hx (by omega)
    (by have hh := World.news_of_block (cs := cs.toArray) (t := 5) (fr := (0, 0)) (heap_alloc_new w (.cells cs.toArray 5)); rw [List.toList_toArray] at hh; exact hh) h1 hn0 (by simp only [maxLen]; omega) (by omega) (by have := h.below.size; simp; omega) (w.alloc (.cells cs.toArray 5)).heap.size rfl
    (fun g cap w' h2 h3 h4 _ => k g cap w' (h.appL (.inr ⟨_, rfl⟩) h2 h3 h4))
/-- The walk's arm for 'dst = append(dst, s[1:m]...)'. -/
theorem wpList_dcut {ops : Array Oper} {rest : List Oper} {op : Oper} {a : Act} {Q : Exit → Act → World → Prop} {w0 w : World} {db nd : Nat} {D : Nat → Int} {v : Value} {xs : List Value} (hgd : op.guard = none) (s x : Operand)
    (ho : op.op = .call { callee := .builtin .append, args := #[s, x], argTypes := #[130, 130] }) (hs : a.eval s = v) (h : Dst w0 w db nd D v xs) (n c : Nat) (hn : n + 1 = nd) (hn0 : 0 < n) (hn1 : n ≤ 40) (hx : a.eval x = .slice (some ⟨db, 1, none⟩) n c) (hl : xs.length ≤ 3000)
    (k : ∀ g cap w', Dst w0 w' db nd D (.slice (some ⟨g, 0, none⟩) (xs.length + n) cap) (xs ++ (List.range n).map fun t => bt (D (1 + t))) → wpList Tryz.prog ops Q rest (a.put op.dst (.slice (some ⟨g, 0, none⟩) (xs.length + n) cap)) w') :
    wpList Tryz.prog ops Q (op :: rest) a w := by
  obtain ⟨i0, z0, hi0, hz0, hs0, hb0, hzs⟩ := info5p
  refine wpList_append_lies w hgd s x 130 ho w0.heap.size 5 i0 z0 1 1 Tryz.underlying130 hi0 hz0 hs0 hb0 hzs (by omega) v xs.length xs hs h.own ⟨db, 1, none⟩ n c ((List.range n).map fun t => bt (D (1 + t))) hx (by simp)
    (fun j u hu => ?_) (fun u hu => ?_) hn0 (by simp only [maxLen]; omega) (by omega) h.below.size w.heap.size rfl (fun g cap w' h2 h3 h4 _ => ?_)
  · have hadd : (⟨db, 1, none⟩ : Addr).add j = ⟨db, 1 + j, none⟩ := by unfold Addr.add; split <;> simp_all
    rw [hadd]
    rw [List.getElem?_map] at hu
    cases hj : (List.range n)[j]? with
    | none => rw [hj] at hu; cases hu
    | some t =>
      rw [hj] at hu
      have hjt : j < n ∧ t = j := by
        rw [List.getElem?_eq_some_iff] at hj
        obtain ⟨h5, h6⟩ := hj
        simp at h5 h6
        exact ⟨h5, h6.symm⟩
      obtain ⟨h7, rfl⟩ := hjt
      injection hu with hu
      rw [← hu]
      exact h.dig (1 + t) (by omega)
  · rw [List.mem_map] at hu
    obtain ⟨t, _, rfl⟩ := hu
    rfl
  · have e : ((List.range n).map fun t => bt (D (1 + t))).length = n := by simp
    have h5 := h.appL (news := (List.range n).map fun t => bt (D (1 + t))) (g := g) (cap := cap) (.inl rfl) (by rw [e]; exact h2) h3 h4
    rw [e] at h5
    exact k g cap w' h5
set_option maxHeartbeats 4000000 in
theorem fmt_g_pn (db nd : Nat) (dl dc : Nat) (D : Nat → Int) (v : Value) (xs : List Value) (w0 w : World) (h : Dst w0 w db nd D v xs) (hn : nd ≤ dl) (hnc : dl ≤ dc) (hdc : dc ≤ 1000) (hx : xs.length ≤ 5) (dp : Int) (hd0 : 0 < dp) (hd1 : dp ≤ 6) (hnd : (nd : Int) ≤ dp) (hnd0 : 0 < nd) (Z : Nat) (hZ : (Z : Int) = dp - nd) :
    Calls Tryz.prog 200 #[v, .bool false, .slice (some ⟨db, 0, none⟩) dl dc, .int .i64 dp, .int .i64 nd, .int .i64 (nd : Int), .int .u8 103, .bool true] w fun r w' => ∃ v', r = .returned v' ∧ Dst w0 w' db nd D v' (xs ++ ((List.range nd).map fun t => bt (D t)) ++ List.replicate Z (bt 48)) := by
  have HD := Lib.hid h
  clear h
  have hm0 : (nd : Int) ≤ dl := by omega
  have hm1 : (nd : Int) ≤ dc := by omega
  have hm2 : min (nd : Int) dp = nd := by omega
  have hm3 : (0 : Int) ≤ nd := by omega
  have hmx : max ((nd : Int) - dp) 0 = 0 := by omega
  have hM4 : nd ≤ 400 := by omega
  have hZ0 : dp - (nd : Int) = Z := hZ.symm
  have hZ1 : Z ≤ 400 := by omega
  have hg1 : ¬ dp - 1 < -4 := by omega
  have hg2 : ¬ (6 : Int) ≤ dp - 1 := by omega
  have hg3 : ¬ dp < (nd : Int) := by omega
  obtain ⟨Q, hQ⟩ : ∃ Q : Ending → World → Prop, Q = fun r w' => ∃ v', r = .returned v' ∧ Dst w0 w' db nd D v' (xs ++ ((List.range nd).map fun t => bt (D t)) ++ List.replicate Z (bt 48)) := ⟨_, rfl⟩
  rw [← hQ]
  have HQ := Lib.hid hQ
  clear hQ hZ
  have hxl : xs.length ≤ 3000 := by omega
  go_enter Tryz.func200, Tryz.ntmps200
  go_wp2_with fail
  go_loopw [0, 25, 191] (fun u _ i wr => ∃ j : Nat, j ≤ nd ∧ i = .int .i64 j ∧ Dst w0 wr db nd D u (xs ++ (List.range j).map fun t => bt (D t))) (fun _ _ i _ => nd - (intOf i).toNat)
  case atStart => exact ⟨0, Nat.zero_le _, rfl, by simpa using HD.out⟩
  case round =>
    obtain ⟨j, hj, rfl, hd⟩ := hrel
    by_cases hjZ : j < nd
    · have hdk := hd.dig j (by omega)
      have hlen : (xs ++ (List.range j).map fun t => bt (D t)).length ≤ 3000 := by simp; omega
      have hsucc : xs ++ (List.range (j + 1)).map (fun t => bt (D t)) = (xs ++ (List.range j).map fun t => bt (D t)) ++ [bt (D j)] := by rw [List.range_succ]; simp
      have hle2 : (xs ++ (List.range j).map fun t => bt (D t)).length = xs.length + j := by simp
      have HSU := Lib.hid hsucc
      have HLE := Lib.hid hlen
      have HL2 := Lib.hid hle2
      have hd2 := Lib.hid hd
      have hk0 : (0 : Int) ≤ (j : Int) := by omega
      have hk1 : (j : Int) < (nd : Int) := by omega
      clear hd hsucc hlen hle2
      go_wp2_with (at_builtin; refine wpList_dst rfl _ _ rfl rfl hd2.out rfl rfl rfl HLE.out ?_; intro gg cap2 w3 hd3)
      all_goals
        refine ⟨⟨j + 1, by omega, by simp, ?_⟩, by simp [intOf]; omega⟩
        rw [HL2.out] at hd3
        rw [HSU.out]
        exact hd3
    · have hjZ' : nd = j := by omega
      subst hjZ'
      have HD1 := Lib.hid hd
      clear hd
      go_wp2_with fail
      obtain ⟨ys, hys⟩ : ∃ ys, ys = xs ++ (List.range nd).map fun t => bt (D t) := ⟨_, rfl⟩
      have hysl : ys.length ≤ 410 := by rw [hys]; simp; omega
      rw [← hys] at HD1
      have Hys := Lib.hid hys
      clear hys
      go_loopw [0, 203] (fun u i wr => ∃ j : Nat, j ≤ Z ∧ i = .int .i64 j ∧ Dst w0 wr db nd D u (ys ++ List.replicate j (bt 48))) (fun _ i _ => Z - (intOf i).toNat)
      case atStart => exact ⟨0, Nat.zero_le _, rfl, by simpa using HD1.out⟩
      case round =>
        obtain ⟨j, hj, rfl, hd⟩ := hrel
        by_cases hjZ : j < Z
        · have hlen : (ys ++ List.replicate j (bt 48)).length ≤ 3000 := by simp; omega
          have hsucc : ys ++ List.replicate (j + 1) (bt 48) = (ys ++ List.replicate j (bt 48)) ++ [bt 48] := by rw [List.replicate_succ']; simp
          have hle2 : (ys ++ List.replicate j (bt 48)).length = ys.length + j := by simp
          have HSU := Lib.hid hsucc
          have HLE := Lib.hid hlen
          have HL2 := Lib.hid hle2
          have hd2 := Lib.hid hd
          have hk0 : (0 : Int) ≤ (j : Int) := by omega
          have hk1 : (j : Int) < (Z : Int) := by omega
          clear hd hsucc hlen hle2
          go_wp2_with (at_builtin; refine wpList_dst rfl _ _ rfl rfl hd2.out rfl rfl rfl HLE.out ?_; intro gg cap2 w3 hd3)
          all_goals
            refine ⟨⟨j + 1, by omega, by simp, ?_⟩, by simp [intOf]; omega⟩
            rw [HL2.out] at hd3
            rw [HSU.out]
            exact hd3
        · have hjZ' : Z = j := by omega
          subst hjZ'
          have HDE := Lib.hid hd
          clear hd
          go_wp2_with fail
          rw [HQ.out]
          refine ⟨_, rfl, ?_⟩
          have e := Hys.out
          rw [← e]
          exact HDE.out
set_option maxHeartbeats 4000000 in
theorem fmt_g_pn_neg (db nd : Nat) (dl dc : Nat) (D : Nat → Int) (v : Value) (xs : List Value) (w0 w : World) (h : Dst w0 w db nd D v xs) (hn : nd ≤ dl) (hnc : dl ≤ dc) (hdc : dc ≤ 1000) (hx : xs.length ≤ 5) (dp : Int) (hd0 : 0 < dp) (hd1 : dp ≤ 6) (hnd : (nd : Int) ≤ dp) (hnd0 : 0 < nd) (Z : Nat) (hZ : (Z : Int) = dp - nd) :
    Calls Tryz.prog 200 #[v, .bool true, .slice (some ⟨db, 0, none⟩) dl dc, .int .i64 dp, .int .i64 nd, .int .i64 (nd : Int), .int .u8 103, .bool true] w fun r w' => ∃ v', r = .returned v' ∧ Dst w0 w' db nd D v' (xs ++ [bt 45] ++ ((List.range nd).map fun t => bt (D t)) ++ List.replicate Z (bt 48)) := by
  have HD := Lib.hid h
  clear h
  have hm0 : (nd : Int) ≤ dl := by omega
  have hm1 : (nd : Int) ≤ dc := by omega
  have hm2 : min (nd : Int) dp = nd := by omega
  have hm3 : (0 : Int) ≤ nd := by omega
  have hmx : max ((nd : Int) - dp) 0 = 0 := by omega
  have hM4 : nd ≤ 400 := by omega
  have hZ0 : dp - (nd : Int) = Z := hZ.symm
  have hZ1 : Z ≤ 400 := by omega
  have hg1 : ¬ dp - 1 < -4 := by omega
  have hg2 : ¬ (6 : Int) ≤ dp - 1 := by omega
  have hg3 : ¬ dp < (nd : Int) := by omega
  obtain ⟨Q, hQ⟩ : ∃ Q : Ending → World → Prop, Q = fun r w' => ∃ v', r = .returned v' ∧ Dst w0 w' db nd D v' (xs ++ [bt 45] ++ ((List.range nd).map fun t => bt (D t)) ++ List.replicate Z (bt 48)) := ⟨_, rfl⟩
  rw [← hQ]
  have HQ := Lib.hid hQ
  clear hQ hZ
  have hxl : xs.length ≤ 3000 := by omega
  go_enter Tryz.func200, Tryz.ntmps200
  go_wp2_with (at_builtin; refine wpList_dst (c := bt 45) rfl _ _ rfl rfl HD.out rfl rfl rfl (by omega) ?_; intro gg cap2 w3 hd3; have HDA := Lib.hid hd3; clear hd3)
  obtain ⟨xa, hxa⟩ : ∃ xa, xa = xs ++ [bt 45] := ⟨_, rfl⟩
  have hxal : xa.length ≤ 6 := by rw [hxa]; simp; omega
  rw [← hxa] at HDA
  have Hxa := Lib.hid hxa
  clear hxa
  go_loopw [0, 25, 191] (fun u _ i wr => ∃ j : Nat, j ≤ nd ∧ i = .int .i64 j ∧ Dst w0 wr db nd D u (xa ++ (List.range j).map fun t => bt (D t))) (fun _ _ i _ => nd - (intOf i).toNat)
  case atStart => exact ⟨0, Nat.zero_le _, rfl, by simpa using HDA.out⟩
  case round =>
    obtain ⟨j, hj, rfl, hd⟩ := hrel
    by_cases hjZ : j < nd
    · have hdk := hd.dig j (by omega)
      have hlen : (xa ++ (List.range j).map fun t => bt (D t)).length ≤ 3000 := by simp; omega
      have hsucc : xa ++ (List.range (j + 1)).map (fun t => bt (D t)) = (xa ++ (List.range j).map fun t => bt (D t)) ++ [bt (D j)] := by rw [List.range_succ]; simp
      have hle2 : (xa ++ (List.range j).map fun t => bt (D t)).length = xa.length + j := by simp
      have HSU := Lib.hid hsucc
      have HLE := Lib.hid hlen
      have HL2 := Lib.hid hle2
      have hd2 := Lib.hid hd
      have hk0 : (0 : Int) ≤ (j : Int) := by omega
      have hk1 : (j : Int) < (nd : Int) := by omega
      clear hd hsucc hlen hle2
      go_wp2_with (at_builtin; refine wpList_dst rfl _ _ rfl rfl hd2.out rfl rfl rfl HLE.out ?_; intro gg cap2 w3 hd3)
      all_goals
        refine ⟨⟨j + 1, by omega, by simp, ?_⟩, by simp [intOf]; omega⟩
        rw [HL2.out] at hd3
        rw [HSU.out]
        exact hd3
    · have hjZ' : nd = j := by omega
      subst hjZ'
      have HD1 := Lib.hid hd
      clear hd
      go_wp2_with fail
      obtain ⟨ys, hys⟩ : ∃ ys, ys = xa ++ (List.range nd).map fun t => bt (D t) := ⟨_, rfl⟩
      have hysl : ys.length ≤ 410 := by rw [hys]; simp; omega
      rw [← hys] at HD1
      have Hys := Lib.hid hys
      clear hys
      go_loopw [0, 203] (fun u i wr => ∃ j : Nat, j ≤ Z ∧ i = .int .i64 j ∧ Dst w0 wr db nd D u (ys ++ List.replicate j (bt 48))) (fun _ i _ => Z - (intOf i).toNat)
      case atStart => exact ⟨0, Nat.zero_le _, rfl, by simpa using HD1.out⟩
      case round =>
        obtain ⟨j, hj, rfl, hd⟩ := hrel
        by_cases hjZ : j < Z
        · have hlen : (ys ++ List.replicate j (bt 48)).length ≤ 3000 := by simp; omega
          have hsucc : ys ++ List.replicate (j + 1) (bt 48) = (ys ++ List.replicate j (bt 48)) ++ [bt 48] := by rw [List.replicate_succ']; simp
          have hle2 : (ys ++ List.replicate j (bt 48)).length = ys.length + j := by simp
          have HSU := Lib.hid hsucc
          have HLE := Lib.hid hlen
          have HL2 := Lib.hid hle2
          have hd2 := Lib.hid hd
          have hk0 : (0 : Int) ≤ (j : Int) := by omega
          have hk1 : (j : Int) < (Z : Int) := by omega
          clear hd hsucc hlen hle2
          go_wp2_with (at_builtin; refine wpList_dst rfl _ _ rfl rfl hd2.out rfl rfl rfl HLE.out ?_; intro gg cap2 w3 hd3)
          all_goals
            refine ⟨⟨j + 1, by omega, by simp, ?_⟩, by simp [intOf]; omega⟩
            rw [HL2.out] at hd3
            rw [HSU.out]
            exact hd3
        · have hjZ' : Z = j := by omega
          subst hjZ'
          have HDE := Lib.hid hd
          clear hd
          go_wp2_with fail
          rw [HQ.out]
          refine ⟨_, rfl, ?_⟩
          have e := Hys.out
          rw [Hxa.out] at e
          rw [← e]
          exact HDE.out
set_option maxHeartbeats 4000000 in
theorem fmt_g_pp (db nd : Nat) (dl dc : Nat) (D : Nat → Int) (v : Value) (xs : List Value) (w0 w : World) (h : Dst w0 w db nd D v xs) (hn : nd ≤ dl) (hnc : dl ≤ dc) (hdc : dc ≤ 1000) (hx : xs.length ≤ 5) (dpn : Nat) (hd0 : 0 < dpn) (hd1 : dpn ≤ 6) (hnd : dpn < nd) (hnl : nd ≤ 32) (M2 : Nat) (hM2 : M2 = nd - dpn) :
    Calls Tryz.prog 200 #[v, .bool false, .slice (some ⟨db, 0, none⟩) dl dc, .int .i64 (dpn : Int), .int .i64 nd, .int .i64 (nd : Int), .int .u8 103, .bool true] w fun r w' => ∃ v', r = .returned v' ∧ Dst w0 w' db nd D v' (xs ++ ((List.range dpn).map fun t => bt (D t)) ++ [bt 46] ++ ((List.range M2).map fun t => bt (D (dpn + t)))) := by
  have HD := Lib.hid h
  clear h
  have hm0 : (dpn : Int) ≤ dl := by omega
  have hm1 : (dpn : Int) ≤ dc := by omega
  have hm2 : min (nd : Int) dpn = dpn := by omega
  have hm3 : (0 : Int) ≤ dpn := by omega
  have hMn : dpn ≤ nd := by omega
  have hM4 : dpn ≤ 400 := by omega
  have hp1 : (0 : Int) < M2 := by omega
  have hq1 : max (0 : Int) (-(dpn : Int)) = 0 := by omega
  have hq2 : min (M2 : Int) 0 = 0 := by omega
  have hq4 : max (0 : Int) ((nd : Int) - (dpn : Int)) = M2 := by omega
  have hd0' : (0 : Int) < dpn := by omega
  have hM3 : dpn + M2 ≤ nd := by omega
  have hmx : max ((nd : Int) - (dpn : Int)) 0 = M2 := by omega
  have hg1 : ¬ (dpn : Int) - 1 < -4 := by omega
  have hg2 : ¬ (6 : Int) ≤ (dpn : Int) - 1 := by omega
  have hg3 : (dpn : Int) < (nd : Int) := by omega
  obtain ⟨Q, hQ⟩ : ∃ Q : Ending → World → Prop, Q = fun r w' => ∃ v', r = .returned v' ∧ Dst w0 w' db nd D v' (xs ++ ((List.range dpn).map fun t => bt (D t)) ++ [bt 46] ++ ((List.range M2).map fun t => bt (D (dpn + t)))) := ⟨_, rfl⟩
  rw [← hQ]
  have HQ := Lib.hid hQ
  clear hQ hM2
  have hxl : xs.length ≤ 3000 := by omega
  go_enter Tryz.func200, Tryz.ntmps200
  go_wp2_with fail
  go_loopw [0, 25, 191] (fun u _ i wr => ∃ j : Nat, j ≤ dpn ∧ i = .int .i64 j ∧ Dst w0 wr db nd D u (xs ++ (List.range j).map fun t => bt (D t))) (fun _ _ i _ => dpn - (intOf i).toNat)
  case atStart => exact ⟨0, Nat.zero_le _, rfl, by simpa using HD.out⟩
  case round =>
    obtain ⟨j, hj, rfl, hd⟩ := hrel
    by_cases hjZ : j < dpn
    · have hdk := hd.dig j (by omega)
      have hlen : (xs ++ (List.range j).map fun t => bt (D t)).length ≤ 3000 := by simp; omega
      have hsucc : xs ++ (List.range (j + 1)).map (fun t => bt (D t)) = (xs ++ (List.range j).map fun t => bt (D t)) ++ [bt (D j)] := by rw [List.range_succ]; simp
      have hle2 : (xs ++ (List.range j).map fun t => bt (D t)).length = xs.length + j := by simp
      have HSU := Lib.hid hsucc
      have HLE := Lib.hid hlen
      have HL2 := Lib.hid hle2
      have hd2 := Lib.hid hd
      have hk0 : (0 : Int) ≤ (j : Int) := by omega
      have hk1 : (j : Int) < (dpn : Int) := by omega
      clear hd hsucc hlen hle2
      go_wp2_with (at_builtin; refine wpList_dst rfl _ _ rfl rfl hd2.out rfl rfl rfl HLE.out ?_; intro gg cap2 w3 hd3)
      all_goals
        refine ⟨⟨j + 1, by omega, by simp, ?_⟩, by simp [intOf]; omega⟩
        rw [HL2.out] at hd3
        rw [HSU.out]
        exact hd3
    · have hjZ' : dpn = j := by omega
      subst hjZ'
      have HD1 := Lib.hid hd
      clear hd
      go_wp2_with fail
      obtain ⟨ys, hys⟩ : ∃ ys, ys = xs ++ (List.range dpn).map fun t => bt (D t) := ⟨_, rfl⟩
      have hysl : ys.length ≤ 410 := by rw [hys]; simp; omega
      rw [← hys] at HD1
      have Hys := Lib.hid hys
      clear hys
      go_loopw [0, 203] (fun u i wr => i = .int .i64 0 ∧ Dst w0 wr db nd D u ys) (fun _ _ _ => 0)
      case atStart => exact ⟨rfl, HD1.out⟩
      case round =>
        obtain ⟨rfl, hd⟩ := hrel
        have HD2 := Lib.hid hd
        clear hd
        have hl2 : ys.length ≤ 3000 := by omega
        go_wp2_with (at_builtin; refine wpList_dst (c := bt 46) rfl _ _ rfl rfl HD2.out rfl rfl rfl (by exact hl2) ?_; intro gg cap2 w3 hd3; have HDA := Lib.hid hd3; clear hd3)
        obtain ⟨yb, hyb⟩ : ∃ yb, yb = ys ++ [bt 46] := ⟨_, rfl⟩
        have hybl : yb.length ≤ 820 := by rw [hyb]; simp; omega
        rw [← hyb] at HDA
        have Hyb := Lib.hid hyb
        clear hyb
        go_loopw [0, 240] (fun u i wr => i = .int .i64 0 ∧ Dst w0 wr db nd D u yb) (fun _ _ _ => 0)
        case atStart => exact ⟨rfl, HDA.out⟩
        case round =>
          obtain ⟨rfl, hd⟩ := hrel
          have HD4 := Lib.hid hd
          clear hd
          go_wp2_with fail
          go_loopw [0, 30, 247] (fun u _ i wr => ∃ j : Nat, j ≤ M2 ∧ i = .int .i64 j ∧ Dst w0 wr db nd D u (yb ++ (List.range j).map fun t => bt (D (dpn + t)))) (fun _ _ i _ => M2 - (intOf i).toNat)
          case atStart => exact ⟨0, Nat.zero_le _, rfl, by simpa using HD4.out⟩
          case round =>
            obtain ⟨j, hj, rfl, hd⟩ := hrel
            by_cases hjZ : j < M2
            · have hdk := hd.dig (dpn + j) (by omega)
              have hlen : (yb ++ (List.range j).map fun t => bt (D (dpn + t))).length ≤ 3000 := by simp; omega
              have hsucc : yb ++ (List.range (j + 1)).map (fun t => bt (D (dpn + t))) = (yb ++ (List.range j).map fun t => bt (D (dpn + t))) ++ [bt (D (dpn + j))] := by rw [List.range_succ]; simp
              have hle2 : (yb ++ (List.range j).map fun t => bt (D (dpn + t))).length = yb.length + j := by simp
              have HSU := Lib.hid hsucc
              have HLE := Lib.hid hlen
              have HL2 := Lib.hid hle2
              have hd2 := Lib.hid hd
              have hk0 : (0 : Int) ≤ (j : Int) := by omega
              have hk1 : (j : Int) < (M2 : Int) := by omega
              clear hd hsucc hlen hle2
              go_wp2_with (at_builtin; refine wpList_dst rfl _ _ rfl rfl hd2.out rfl rfl rfl HLE.out ?_; intro gg cap2 w3 hd3)
              all_goals
                refine ⟨⟨j + 1, by omega, by simp, ?_⟩, by simp [intOf]; omega⟩
                rw [HL2.out] at hd3
                rw [HSU.out]
                exact hd3
            · have hjZ' : M2 = j := by omega
              subst hjZ'
              have HD5 := Lib.hid hd
              clear hd
              go_wp2_with fail
              obtain ⟨yd, hyd⟩ : ∃ yd, yd = yb ++ (List.range M2).map fun t => bt (D (dpn + t)) := ⟨_, rfl⟩
              have hydl : yd.length ≤ 1800 := by rw [hyd]; simp; omega
              rw [← hyd] at HD5
              have Hyd := Lib.hid hyd
              clear hyd
              go_loopw [0, 261] (fun u i wr => i = .int .i64 0 ∧ Dst w0 wr db nd D u yd) (fun _ _ _ => 0)
              case atStart => exact ⟨rfl, HD5.out⟩
              case round =>
                obtain ⟨rfl, hd⟩ := hrel
                have HDE := Lib.hid hd
                clear hd
                go_wp2_with fail
                rw [HQ.out]
                refine ⟨_, rfl, ?_⟩
                have e1 := Hys.out
                have e2 := Hyb.out
                have e4 := Hyd.out
                rw [e1] at e2
                rw [e2] at e4
                rw [← e4]
                exact HDE.out
set_option maxHeartbeats 4000000 in
theorem fmt_g_pp_neg (db nd : Nat) (dl dc : Nat) (D : Nat → Int) (v : Value) (xs : List Value) (w0 w : World) (h : Dst w0 w db nd D v xs) (hn : nd ≤ dl) (hnc : dl ≤ dc) (hdc : dc ≤ 1000) (hx : xs.length ≤ 5) (dpn : Nat) (hd0 : 0 < dpn) (hd1 : dpn ≤ 6) (hnd : dpn < nd) (hnl : nd ≤ 32) (M2 : Nat) (hM2 : M2 = nd - dpn) :
    Calls Tryz.prog 200 #[v, .bool true, .slice (some ⟨db, 0, none⟩) dl dc, .int .i64 (dpn : Int), .int .i64 nd, .int .i64 (nd : Int), .int .u8 103, .bool true] w fun r w' => ∃ v', r = .returned v' ∧ Dst w0 w' db nd D v' (xs ++ [bt 45] ++ ((List.range dpn).map fun t => bt (D t)) ++ [bt 46] ++ ((List.range M2).map fun t => bt (D (dpn + t)))) := by
  have HD := Lib.hid h
  clear h
  have hm0 : (dpn : Int) ≤ dl := by omega
  have hm1 : (dpn : Int) ≤ dc := by omega
  have hm2 : min (nd : Int) dpn = dpn := by omega
  have hm3 : (0 : Int) ≤ dpn := by omega
  have hMn : dpn ≤ nd := by omega
  have hM4 : dpn ≤ 400 := by omega
  have hp1 : (0 : Int) < M2 := by omega
  have hq1 : max (0 : Int) (-(dpn : Int)) = 0 := by omega
  have hq2 : min (M2 : Int) 0 = 0 := by omega
  have hq4 : max (0 : Int) ((nd : Int) - (dpn : Int)) = M2 := by omega
  have hd0' : (0 : Int) < dpn := by omega
  have hM3 : dpn + M2 ≤ nd := by omega
  have hmx : max ((nd : Int) - (dpn : Int)) 0 = M2 := by omega
  have hg1 : ¬ (dpn : Int) - 1 < -4 := by omega
  have hg2 : ¬ (6 : Int) ≤ (dpn : Int) - 1 := by omega
  have hg3 : (dpn : Int) < (nd : Int) := by omega
  obtain ⟨Q, hQ⟩ : ∃ Q : Ending → World → Prop, Q = fun r w' => ∃ v', r = .returned v' ∧ Dst w0 w' db nd D v' (xs ++ [bt 45] ++ ((List.range dpn).map fun t => bt (D t)) ++ [bt 46] ++ ((List.range M2).map fun t => bt (D (dpn + t)))) := ⟨_, rfl⟩
  rw [← hQ]
  have HQ := Lib.hid hQ
  clear hQ hM2
  have hxl : xs.length ≤ 3000 := by omega
  go_enter Tryz.func200, Tryz.ntmps200
  go_wp2_with (at_builtin; refine wpList_dst (c := bt 45) rfl _ _ rfl rfl HD.out rfl rfl rfl (by omega) ?_; intro gg cap2 w3 hd3; have HDA := Lib.hid hd3; clear hd3)
  obtain ⟨xa, hxa⟩ : ∃ xa, xa = xs ++ [bt 45] := ⟨_, rfl⟩
  have hxal : xa.length ≤ 6 := by rw [hxa]; simp; omega
  rw [← hxa] at HDA
  have Hxa := Lib.hid hxa
  clear hxa
  go_loopw [0, 25, 191] (fun u _ i wr => ∃ j : Nat, j ≤ dpn ∧ i = .int .i64 j ∧ Dst w0 wr db nd D u (xa ++ (List.range j).map fun t => bt (D t))) (fun _ _ i _ => dpn - (intOf i).toNat)
  case atStart => exact ⟨0, Nat.zero_le _, rfl, by simpa using HDA.out⟩
  case round =>
    obtain ⟨j, hj, rfl, hd⟩ := hrel
    by_cases hjZ : j < dpn
    · have hdk := hd.dig j (by omega)
      have hlen : (xa ++ (List.range j).map fun t => bt (D t)).length ≤ 3000 := by simp; omega
      have hsucc : xa ++ (List.range (j + 1)).map (fun t => bt (D t)) = (xa ++ (List.range j).map fun t => bt (D t)) ++ [bt (D j)] := by rw [List.range_succ]; simp
      have hle2 : (xa ++ (List.range j).map fun t => bt (D t)).length = xa.length + j := by simp
      have HSU := Lib.hid hsucc
      have HLE := Lib.hid hlen
      have HL2 := Lib.hid hle2
      have hd2 := Lib.hid hd
      have hk0 : (0 : Int) ≤ (j : Int) := by omega
      have hk1 : (j : Int) < (dpn : Int) := by omega
      clear hd hsucc hlen hle2
      go_wp2_with (at_builtin; refine wpList_dst rfl _ _ rfl rfl hd2.out rfl rfl rfl HLE.out ?_; intro gg cap2 w3 hd3)
      all_goals
        refine ⟨⟨j + 1, by omega, by simp, ?_⟩, by simp [intOf]; omega⟩
        rw [HL2.out] at hd3
        rw [HSU.out]
        exact hd3
    · have hjZ' : dpn = j := by omega
      subst hjZ'
      have HD1 := Lib.hid hd
      clear hd
      go_wp2_with fail
      obtain ⟨ys, hys⟩ : ∃ ys, ys = xa ++ (List.range dpn).map fun t => bt (D t) := ⟨_, rfl⟩
      have hysl : ys.length ≤ 410 := by rw [hys]; simp; omega
      rw [← hys] at HD1
      have Hys := Lib.hid hys
      clear hys
      go_loopw [0, 203] (fun u i wr => i = .int .i64 0 ∧ Dst w0 wr db nd D u ys) (fun _ _ _ => 0)
      case atStart => exact ⟨rfl, HD1.out⟩
      case round =>
        obtain ⟨rfl, hd⟩ := hrel
        have HD2 := Lib.hid hd
        clear hd
        have hl2 : ys.length ≤ 3000 := by omega
        go_wp2_with (at_builtin; refine wpList_dst (c := bt 46) rfl _ _ rfl rfl HD2.out rfl rfl rfl (by exact hl2) ?_; intro gg cap2 w3 hd3; have HDA := Lib.hid hd3; clear hd3)
        obtain ⟨yb, hyb⟩ : ∃ yb, yb = ys ++ [bt 46] := ⟨_, rfl⟩
        have hybl : yb.length ≤ 820 := by rw [hyb]; simp; omega
        rw [← hyb] at HDA
        have Hyb := Lib.hid hyb
        clear hyb
        go_loopw [0, 240] (fun u i wr => i = .int .i64 0 ∧ Dst w0 wr db nd D u yb) (fun _ _ _ => 0)
        case atStart => exact ⟨rfl, HDA.out⟩
        case round =>
          obtain ⟨rfl, hd⟩ := hrel
          have HD4 := Lib.hid hd
          clear hd
          go_wp2_with fail
          go_loopw [0, 30, 247] (fun u _ i wr => ∃ j : Nat, j ≤ M2 ∧ i = .int .i64 j ∧ Dst w0 wr db nd D u (yb ++ (List.range j).map fun t => bt (D (dpn + t)))) (fun _ _ i _ => M2 - (intOf i).toNat)
          case atStart => exact ⟨0, Nat.zero_le _, rfl, by simpa using HD4.out⟩
          case round =>
            obtain ⟨j, hj, rfl, hd⟩ := hrel
            by_cases hjZ : j < M2
            · have hdk := hd.dig (dpn + j) (by omega)
              have hlen : (yb ++ (List.range j).map fun t => bt (D (dpn + t))).length ≤ 3000 := by simp; omega
              have hsucc : yb ++ (List.range (j + 1)).map (fun t => bt (D (dpn + t))) = (yb ++ (List.range j).map fun t => bt (D (dpn + t))) ++ [bt (D (dpn + j))] := by rw [List.range_succ]; simp
              have hle2 : (yb ++ (List.range j).map fun t => bt (D (dpn + t))).length = yb.length + j := by simp
              have HSU := Lib.hid hsucc
              have HLE := Lib.hid hlen
              have HL2 := Lib.hid hle2
              have hd2 := Lib.hid hd
              have hk0 : (0 : Int) ≤ (j : Int) := by omega
              have hk1 : (j : Int) < (M2 : Int) := by omega
              clear hd hsucc hlen hle2
              go_wp2_with (at_builtin; refine wpList_dst rfl _ _ rfl rfl hd2.out rfl rfl rfl HLE.out ?_; intro gg cap2 w3 hd3)
              all_goals
                refine ⟨⟨j + 1, by omega, by simp, ?_⟩, by simp [intOf]; omega⟩
                rw [HL2.out] at hd3
                rw [HSU.out]
                exact hd3
            · have hjZ' : M2 = j := by omega
              subst hjZ'
              have HD5 := Lib.hid hd
              clear hd
              go_wp2_with fail
              obtain ⟨yd, hyd⟩ : ∃ yd, yd = yb ++ (List.range M2).map fun t => bt (D (dpn + t)) := ⟨_, rfl⟩
              have hydl : yd.length ≤ 1800 := by rw [hyd]; simp; omega
              rw [← hyd] at HD5
              have Hyd := Lib.hid hyd
              clear hyd
              go_loopw [0, 261] (fun u i wr => i = .int .i64 0 ∧ Dst w0 wr db nd D u yd) (fun _ _ _ => 0)
              case atStart => exact ⟨rfl, HD5.out⟩
              case round =>
                obtain ⟨rfl, hd⟩ := hrel
                have HDE := Lib.hid hd
                clear hd
                go_wp2_with fail
                rw [HQ.out]
                refine ⟨_, rfl, ?_⟩
                have e1 := Hys.out
                have e2 := Hyb.out
                have e4 := Hyd.out
                rw [Hxa.out] at e1
                rw [e1] at e2
                rw [e2] at e4
                rw [← e4]
                exact HDE.out
set_option maxHeartbeats 4000000 in
theorem fmt_g_np (db nd : Nat) (dl dc : Nat) (D : Nat → Int) (v : Value) (xs : List Value) (w0 w : World) (h : Dst w0 w db nd D v xs) (hn : nd ≤ dl) (hnc : dl ≤ dc) (hdc : dc ≤ 1000) (hx : xs.length ≤ 5) (Z : Nat) (hZ1 : Z ≤ 3) (hnl : nd ≤ 32) (hnd0 : 0 < nd) :
    Calls Tryz.prog 200 #[v, .bool false, .slice (some ⟨db, 0, none⟩) dl dc, .int .i64 (-(Z : Int)), .int .i64 nd, .int .i64 (nd : Int), .int .u8 103, .bool true] w fun r w' => ∃ v', r = .returned v' ∧ Dst w0 w' db nd D v' (xs ++ [bt 48] ++ [bt 46] ++ List.replicate Z (bt 48) ++ ((List.range nd).map fun t => bt (D t))) := by
  have HD := Lib.hid h
  clear h
  have hq0 : ¬ (0 : Int) < -(Z : Int) := by omega
  have hq1 : max (0 : Int) (Z : Int) = Z := by omega
  have hq2 : min ((nd : Int) + Z) (Z : Int) = Z := by omega
  have hq3 : -(Z : Int) + (Z : Int) = 0 := by omega
  have hq4 : max (0 : Int) (nd : Int) = nd := by omega
  have hq5 : (nd : Int) + (Z : Int) - (Z : Int) = nd := by omega
  have hp1 : (0 : Int) < (nd : Int) + Z := by omega
  have hmx : max ((nd : Int) + (Z : Int)) 0 = (nd : Int) + Z := by omega
  have hmy : max ((nd : Int) - -(Z : Int)) 0 = (nd : Int) + Z := by omega
  have hg1 : ¬ -(Z : Int) - 1 < -4 := by omega
  have hg2 : ¬ (6 : Int) ≤ -(Z : Int) - 1 := by omega
  have hg3 : -(Z : Int) < (nd : Int) := by omega
  obtain ⟨Q, hQ⟩ : ∃ Q : Ending → World → Prop, Q = fun r w' => ∃ v', r = .returned v' ∧ Dst w0 w' db nd D v' (xs ++ [bt 48] ++ [bt 46] ++ List.replicate Z (bt 48) ++ ((List.range nd).map fun t => bt (D t))) := ⟨_, rfl⟩
  rw [← hQ]
  have HQ := Lib.hid hQ
  clear hQ 
  have hxl : xs.length ≤ 3000 := by omega
  go_enter Tryz.func200, Tryz.ntmps200
  go_wp2_with (first | (at_builtin; refine wpList_dst (c := bt 48) rfl _ _ rfl rfl HD.out rfl rfl rfl (by (try simp); omega) ?_; intro gg cap2 w3 hd3; (try simp only [List.length_append, List.length_singleton] at hd3); have HDi := Lib.hid hd3; clear hd3) | (at_builtin; refine wpList_dst (c := bt 46) rfl _ _ rfl rfl HDi.out rfl rfl rfl (by (try simp); omega) ?_; intro gg cap2 w3 hd3; (try simp only [List.length_append, List.length_singleton] at hd3); have HDp := Lib.hid hd3; clear hd3))
  obtain ⟨ya, hya⟩ : ∃ ya, ya = xs ++ [bt 48] ++ [bt 46] := ⟨_, rfl⟩
  have hyal : ya.length ≤ 10 := by rw [hya]; simp; omega
  rw [← hya] at HDp
  have Hya := Lib.hid hya
  clear hya
  go_loopw [0, 240] (fun u i wr => ∃ j : Nat, j ≤ Z ∧ i = .int .i64 j ∧ Dst w0 wr db nd D u (ya ++ List.replicate j (bt 48))) (fun _ i _ => Z - (intOf i).toNat)
  case atStart => exact ⟨0, Nat.zero_le _, rfl, by simpa using HDp.out⟩
  case round =>
    obtain ⟨j, hj, rfl, hd⟩ := hrel
    by_cases hjZ : j < Z
    · have hlen : (ya ++ List.replicate j (bt 48)).length ≤ 3000 := by simp; omega
      have hsucc : ya ++ List.replicate (j + 1) (bt 48) = (ya ++ List.replicate j (bt 48)) ++ [bt 48] := by rw [List.replicate_succ']; simp
      have hle2 : (ya ++ List.replicate j (bt 48)).length = ya.length + j := by simp
      have HSU := Lib.hid hsucc
      have HLE := Lib.hid hlen
      have HL2 := Lib.hid hle2
      have hd2 := Lib.hid hd
      have hk0 : (0 : Int) ≤ (j : Int) := by omega
      have hk1 : (j : Int) < (Z : Int) := by omega
      clear hd hsucc hlen hle2
      go_wp2_with (at_builtin; refine wpList_dst rfl _ _ rfl rfl hd2.out rfl rfl rfl HLE.out ?_; intro gg cap2 w3 hd3)
      all_goals
        refine ⟨⟨j + 1, by omega, by simp, ?_⟩, by simp [intOf]; omega⟩
        rw [HL2.out] at hd3
        rw [HSU.out]
        exact hd3
    · have hjZ' : Z = j := by omega
      subst hjZ'
      have HD4 := Lib.hid hd
      clear hd
      go_wp2_with fail
      obtain ⟨yb, hyb⟩ : ∃ yb, yb = ya ++ List.replicate Z (bt 48) := ⟨_, rfl⟩
      have hybl : yb.length ≤ 820 := by rw [hyb]; simp; omega
      rw [← hyb] at HD4
      have Hyb := Lib.hid hyb
      clear hyb
      go_loopw [0, 30, 247] (fun u _ i wr => ∃ j : Nat, j ≤ nd ∧ i = .int .i64 j ∧ Dst w0 wr db nd D u (yb ++ (List.range j).map fun t => bt (D t))) (fun _ _ i _ => nd - (intOf i).toNat)
      case atStart => exact ⟨0, Nat.zero_le _, rfl, by simpa using HD4.out⟩
      case round =>
        obtain ⟨j, hj, rfl, hd⟩ := hrel
        by_cases hjZ : j < nd
        · have hdk := hd.dig j (by omega)
          have hlen : (yb ++ (List.range j).map fun t => bt (D t)).length ≤ 3000 := by simp; omega
          have hsucc : yb ++ (List.range (j + 1)).map (fun t => bt (D t)) = (yb ++ (List.range j).map fun t => bt (D t)) ++ [bt (D j)] := by rw [List.range_succ]; simp
          have hle2 : (yb ++ (List.range j).map fun t => bt (D t)).length = yb.length + j := by simp
          have HSU := Lib.hid hsucc
          have HLE := Lib.hid hlen
          have HL2 := Lib.hid hle2
          have hd2 := Lib.hid hd
          have hk0 : (0 : Int) ≤ (j : Int) := by omega
          have hk1 : (j : Int) < (nd : Int) := by omega
          clear hd hsucc hlen hle2
          go_wp2_with (at_builtin; refine wpList_dst rfl _ _ rfl rfl hd2.out rfl rfl rfl HLE.out ?_; intro gg cap2 w3 hd3)
          all_goals
            refine ⟨⟨j + 1, by omega, by simp, ?_⟩, by simp [intOf]; omega⟩
            rw [HL2.out] at hd3
            rw [HSU.out]
            exact hd3
        · have hjZ' : nd = j := by omega
          subst hjZ'
          have HD5 := Lib.hid hd
          clear hd
          go_wp2_with fail
          obtain ⟨yc, hyc⟩ : ∃ yc, yc = yb ++ (List.range nd).map fun t => bt (D t) := ⟨_, rfl⟩
          have hycl : yc.length ≤ 1300 := by rw [hyc]; simp; omega
          rw [← hyc] at HD5
          have Hyc := Lib.hid hyc
          clear hyc
          go_loopw [0, 261] (fun u i wr => i = .int .i64 0 ∧ Dst w0 wr db nd D u yc) (fun _ _ _ => 0)
          case atStart => exact ⟨rfl, HD5.out⟩
          case round =>
            obtain ⟨rfl, hd⟩ := hrel
            have HDE := Lib.hid hd
            clear hd
            go_wp2_with fail
            rw [HQ.out]
            refine ⟨_, rfl, ?_⟩
            have e1 := Hya.out
            have e2 := Hyb.out
            have e3 := Hyc.out
            rw [e1] at e2
            rw [e2] at e3
            rw [← e3]
            exact HDE.out
set_option maxHeartbeats 4000000 in
theorem fmt_g_np_neg (db nd : Nat) (dl dc : Nat) (D : Nat → Int) (v : Value) (xs : List Value) (w0 w : World) (h : Dst w0 w db nd D v xs) (hn : nd ≤ dl) (hnc : dl ≤ dc) (hdc : dc ≤ 1000) (hx : xs.length ≤ 5) (Z : Nat) (hZ1 : Z ≤ 3) (hnl : nd ≤ 32) (hnd0 : 0 < nd) :
    Calls Tryz.prog 200 #[v, .bool true, .slice (some ⟨db, 0, none⟩) dl dc, .int .i64 (-(Z : Int)), .int .i64 nd, .int .i64 (nd : Int), .int .u8 103, .bool true] w fun r w' => ∃ v', r = .returned v' ∧ Dst w0 w' db nd D v' (xs ++ [bt 45] ++ [bt 48] ++ [bt 46] ++ List.replicate Z (bt 48) ++ ((List.range nd).map fun t => bt (D t))) := by
  have HD := Lib.hid h
  clear h
  have hq0 : ¬ (0 : Int) < -(Z : Int) := by omega
  have hq1 : max (0 : Int) (Z : Int) = Z := by omega
  have hq2 : min ((nd : Int) + Z) (Z : Int) = Z := by omega
  have hq3 : -(Z : Int) + (Z : Int) = 0 := by omega
  have hq4 : max (0 : Int) (nd : Int) = nd := by omega
  have hq5 : (nd : Int) + (Z : Int) - (Z : Int) = nd := by omega
  have hp1 : (0 : Int) < (nd : Int) + Z := by omega
  have hmx : max ((nd : Int) + (Z : Int)) 0 = (nd : Int) + Z := by omega
  have hmy : max ((nd : Int) - -(Z : Int)) 0 = (nd : Int) + Z := by omega
  have hg1 : ¬ -(Z : Int) - 1 < -4 := by omega
  have hg2 : ¬ (6 : Int) ≤ -(Z : Int) - 1 := by omega
  have hg3 : -(Z : Int) < (nd : Int) := by omega
  obtain ⟨Q, hQ⟩ : ∃ Q : Ending → World → Prop, Q = fun r w' => ∃ v', r = .returned v' ∧ Dst w0 w' db nd D v' (xs ++ [bt 45] ++ [bt 48] ++ [bt 46] ++ List.replicate Z (bt 48) ++ ((List.range nd).map fun t => bt (D t))) := ⟨_, rfl⟩
  rw [← hQ]
  have HQ := Lib.hid hQ
  clear hQ 
  have hxl : xs.length ≤ 3000 := by omega
  go_enter Tryz.func200, Tryz.ntmps200
  go_wp2_with (first | (at_builtin; refine wpList_dst (c := bt 45) rfl _ _ rfl rfl HD.out rfl rfl rfl (by (try simp); omega) ?_; intro gg cap2 w3 hd3; (try simp only [List.length_append, List.length_singleton] at hd3); have HDs := Lib.hid hd3; clear hd3) | (at_builtin; refine wpList_dst (c := bt 48) rfl _ _ rfl rfl HDs.out rfl rfl rfl (by (try simp); omega) ?_; intro gg cap2 w3 hd3; (try simp only [List.length_append, List.length_singleton] at hd3); have HDi := Lib.hid hd3; clear hd3) | (at_builtin; refine wpList_dst (c := bt 46) rfl _ _ rfl rfl HDi.out rfl rfl rfl (by (try simp); omega) ?_; intro gg cap2 w3 hd3; (try simp only [List.length_append, List.length_singleton] at hd3); have HDp := Lib.hid hd3; clear hd3))
  obtain ⟨ya, hya⟩ : ∃ ya, ya = xs ++ [bt 45] ++ [bt 48] ++ [bt 46] := ⟨_, rfl⟩
  have hyal : ya.length ≤ 10 := by rw [hya]; simp; omega
  rw [← hya] at HDp
  have Hya := Lib.hid hya
  clear hya
  go_loopw [0, 240] (fun u i wr => ∃ j : Nat, j ≤ Z ∧ i = .int .i64 j ∧ Dst w0 wr db nd D u (ya ++ List.replicate j (bt 48))) (fun _ i _ => Z - (intOf i).toNat)
  case atStart => exact ⟨0, Nat.zero_le _, rfl, by simpa using HDp.out⟩
  case round =>
    obtain ⟨j, hj, rfl, hd⟩ := hrel
    by_cases hjZ : j < Z
    · have hlen : (ya ++ List.replicate j (bt 48)).length ≤ 3000 := by simp; omega
      have hsucc : ya ++ List.replicate (j + 1) (bt 48) = (ya ++ List.replicate j (bt 48)) ++ [bt 48] := by rw [List.replicate_succ']; simp
      have hle2 : (ya ++ List.replicate j (bt 48)).length = ya.length + j := by simp
      have HSU := Lib.hid hsucc
      have HLE := Lib.hid hlen
      have HL2 := Lib.hid hle2
      have hd2 := Lib.hid hd
      have hk0 : (0 : Int) ≤ (j : Int) := by omega
      have hk1 : (j : Int) < (Z : Int) := by omega
      clear hd hsucc hlen hle2
      go_wp2_with (at_builtin; refine wpList_dst rfl _ _ rfl rfl hd2.out rfl rfl rfl HLE.out ?_; intro gg cap2 w3 hd3)
      all_goals
        refine ⟨⟨j + 1, by omega, by simp, ?_⟩, by simp [intOf]; omega⟩
        rw [HL2.out] at hd3
        rw [HSU.out]
        exact hd3
    · have hjZ' : Z = j := by omega
      subst hjZ'
      have HD4 := Lib.hid hd
      clear hd
      go_wp2_with fail
      obtain ⟨yb, hyb⟩ : ∃ yb, yb = ya ++ List.replicate Z (bt 48) := ⟨_, rfl⟩
      have hybl : yb.length ≤ 820 := by rw [hyb]; simp; omega
      rw [← hyb] at HD4
      have Hyb := Lib.hid hyb
      clear hyb
      go_loopw [0, 30, 247] (fun u _ i wr => ∃ j : Nat, j ≤ nd ∧ i = .int .i64 j ∧ Dst w0 wr db nd D u (yb ++ (List.range j).map fun t => bt (D t))) (fun _ _ i _ => nd - (intOf i).toNat)
      case atStart => exact ⟨0, Nat.zero_le _, rfl, by simpa using HD4.out⟩
      case round =>
        obtain ⟨j, hj, rfl, hd⟩ := hrel
        by_cases hjZ : j < nd
        · have hdk := hd.dig j (by omega)
          have hlen : (yb ++ (List.range j).map fun t => bt (D t)).length ≤ 3000 := by simp; omega
          have hsucc : yb ++ (List.range (j + 1)).map (fun t => bt (D t)) = (yb ++ (List.range j).map fun t => bt (D t)) ++ [bt (D j)] := by rw [List.range_succ]; simp
          have hle2 : (yb ++ (List.range j).map fun t => bt (D t)).length = yb.length + j := by simp
          have HSU := Lib.hid hsucc
          have HLE := Lib.hid hlen
          have HL2 := Lib.hid hle2
          have hd2 := Lib.hid hd
          have hk0 : (0 : Int) ≤ (j : Int) := by omega
          have hk1 : (j : Int) < (nd : Int) := by omega
          clear hd hsucc hlen hle2
          go_wp2_with (at_builtin; refine wpList_dst rfl _ _ rfl rfl hd2.out rfl rfl rfl HLE.out ?_; intro gg cap2 w3 hd3)
          all_goals
            refine ⟨⟨j + 1, by omega, by simp, ?_⟩, by simp [intOf]; omega⟩
            rw [HL2.out] at hd3
            rw [HSU.out]
            exact hd3
        · have hjZ' : nd = j := by omega
          subst hjZ'
          have HD5 := Lib.hid hd
          clear hd
          go_wp2_with fail
          obtain ⟨yc, hyc⟩ : ∃ yc, yc = yb ++ (List.range nd).map fun t => bt (D t) := ⟨_, rfl⟩
          have hycl : yc.length ≤ 1300 := by rw [hyc]; simp; omega
          rw [← hyc] at HD5
          have Hyc := Lib.hid hyc
          clear hyc
          go_loopw [0, 261] (fun u i wr => i = .int .i64 0 ∧ Dst w0 wr db nd D u yc) (fun _ _ _ => 0)
          case atStart => exact ⟨rfl, HD5.out⟩
          case round =>
            obtain ⟨rfl, hd⟩ := hrel
            have HDE := Lib.hid hd
            clear hd
            go_wp2_with fail
            rw [HQ.out]
            refine ⟨_, rfl, ?_⟩
            have e1 := Hya.out
            have e2 := Hyb.out
            have e3 := Hyc.out
            rw [e1] at e2
            rw [e2] at e3
            rw [← e3]
            exact HDE.out
set_option maxHeartbeats 4000000 in
theorem fmt_g_nn (db nd : Nat) (ds : Value) (D : Nat → Int) (v : Value) (xs : List Value) (w0 w : World) (h : Dst w0 w db nd D v xs)  (hx : xs.length ≤ 5)  :
    Calls Tryz.prog 200 #[v, .bool false, ds, .int .i64 0, .int .i64 0, .int .i64 (-1), .int .u8 103, .bool true] w fun r w' => ∃ v', r = .returned v' ∧ Dst w0 w' db nd D v' (xs ++ [bt 48]) := by
  have HD := Lib.hid h
  clear h
  obtain ⟨Q, hQ⟩ : ∃ Q : Ending → World → Prop, Q = fun r w' => ∃ v', r = .returned v' ∧ Dst w0 w' db nd D v' (xs ++ [bt 48]) := ⟨_, rfl⟩
  rw [← hQ]
  have HQ := Lib.hid hQ
  clear hQ 
  have hxl : xs.length ≤ 3000 := by omega
  go_enter Tryz.func200, Tryz.ntmps200
  go_wp2_with (first | (at_builtin; refine wpList_dst (c := bt 48) rfl _ _ rfl rfl HD.out rfl rfl rfl (by (try simp); omega) ?_; intro gg cap2 w3 hd3; (try simp only [List.length_append, List.length_singleton] at hd3); have HDi := Lib.hid hd3; clear hd3))
  rw [HQ.out]
  exact ⟨_, rfl, HDi.out⟩
set_option maxHeartbeats 4000000 in
theorem fmt_g_nn_neg (db nd : Nat) (ds : Value) (D : Nat → Int) (v : Value) (xs : List Value) (w0 w : World) (h : Dst w0 w db nd D v xs)  (hx : xs.length ≤ 5)  :
    Calls Tryz.prog 200 #[v, .bool true, ds, .int .i64 0, .int .i64 0, .int .i64 (-1), .int .u8 103, .bool true] w fun r w' => ∃ v', r = .returned v' ∧ Dst w0 w' db nd D v' (xs ++ [bt 45] ++ [bt 48]) := by
  have HD := Lib.hid h
  clear h
  obtain ⟨Q, hQ⟩ : ∃ Q : Ending → World → Prop, Q = fun r w' => ∃ v', r = .returned v' ∧ Dst w0 w' db nd D v' (xs ++ [bt 45] ++ [bt 48]) := ⟨_, rfl⟩
  rw [← hQ]
  have HQ := Lib.hid hQ
  clear hQ 
  have hxl : xs.length ≤ 3000 := by omega
  go_enter Tryz.func200, Tryz.ntmps200
  go_wp2_with (first | (at_builtin; refine wpList_dst (c := bt 45) rfl _ _ rfl rfl HD.out rfl rfl rfl (by (try simp); omega) ?_; intro gg cap2 w3 hd3; (try simp only [List.length_append, List.length_singleton] at hd3); have HDs := Lib.hid hd3; clear hd3) | (at_builtin; refine wpList_dst (c := bt 48) rfl _ _ rfl rfl HDs.out rfl rfl rfl (by (try simp); omega) ?_; intro gg cap2 w3 hd3; (try simp only [List.length_append, List.length_singleton] at hd3); have HDi := Lib.hid hd3; clear hd3))
  rw [HQ.out]
  exact ⟨_, rfl, HDi.out⟩
end Go.Proofs.YtnggkkdcddpjlaaGreatDoor
