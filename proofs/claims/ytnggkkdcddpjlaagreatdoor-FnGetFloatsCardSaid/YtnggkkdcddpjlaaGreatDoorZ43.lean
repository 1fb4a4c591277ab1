/- pflag's FlagSet.Set of the flag x. -/
import Derived.Test.YtnggkkdcddpjlaaGreatDoorZ42
import Derived.Carry
namespace Go.Proofs.YtnggkkdcddpjlaaGreatDoor
open Go.RowKit
set_option maxRecDepth 100000
set_option linter.unusedVariables false
set_option linter.unusedSimpArgs false
/-- All blocks but three are as they were. -/
structure Frame3 (b fb vb : Nat) (w w' : World) : Prop where
  os : w'.os = w.os
  tape : w'.tape = w.tape
  output : w'.output = w.output
  size : w.heap.size ≤ w'.heap.size
  block : ∀ k, k < w.heap.size → k ≠ b → k ≠ fb → k ≠ vb → w'.heap[k]? = w.heap[k]?
theorem Frame3.of {b fb vb : Nat} {w w' : World} (h : w.grownBy w' (some vb)) : Frame3 b fb vb w w' := ⟨h.os, h.tape, h.output, h.size, fun k hk _ _ h3 => h.block k hk (fun e => h3 (Option.some.inj e))⟩
theorem Frame3.then {b fb vb : Nat} {w w' w'' : World} (h : Frame3 b fb vb w w') (hb : Below w'.heap.size w' w'') : Frame3 b fb vb w w'' :=
  ⟨hb.os.trans h.os, hb.tape.trans h.tape, hb.output.trans h.output, Nat.le_trans h.size hb.size, fun k hk h1 h2 h3 => (hb.block k (Nat.lt_of_lt_of_le hk h.size)).trans (h.block k hk h1 h2 h3)⟩
/-- Whether there is an error. -/
def ErrN (bad : Bool) (er : Value) : Prop := if bad = true then ∃ t p, er = .iface t (.pointer (some p)) else er = .nilIface
theorem m_set32 (p : Addr) (w : World) : (method 514 118 (.pointer (some p)) "Set").run Tryz.prog w = .ok (74, .pointer (some p)) w := by kernel_rfl
theorem m_str32 (p : Addr) (w : World) : (method 514 118 (.pointer (some p)) "String").run Tryz.prog w = .ok (75, .pointer (some p)) w := by kernel_rfl
theorem m_typ32 (p : Addr) (w : World) : (method 514 118 (.pointer (some p)) "Type").run Tryz.prog w = .ok (280, .pointer (some p)) w := by kernel_rfl
theorem m_set64 (p : Addr) (w : World) : (method 514 122 (.pointer (some p)) "Set").run Tryz.prog w = .ok (77, .pointer (some p)) w := by kernel_rfl
theorem m_str64 (p : Addr) (w : World) : (method 514 122 (.pointer (some p)) "String").run Tryz.prog w = .ok (78, .pointer (some p)) w := by kernel_rfl
theorem m_typ64 (p : Addr) (w : World) : (method 514 122 (.pointer (some p)) "Type").run Tryz.prog w = .ok (281, .pointer (some p)) w := by kernel_rfl
theorem u177 : Tryz.prog.underlying 177 = some (.slice 189) := by kernel_rfl
theorem info189q : (Tryz.prog.info? 189).map (fun i => (i.size, i.bytes, i.zero.map (·.cells.size))) = some (1, 8, some 1) := by kernel_rfl
theorem info189 : ∃ i0 z0, Tryz.prog.info? 189 = some i0 ∧ i0.zero = some z0 ∧ i0.size = 1 ∧ i0.bytes = 8 ∧ z0.cells.size = 1 := by
  have h := info189q
  cases hh : Tryz.prog.info? 189 with
  | none => rw [hh] at h; cases h
  | some i =>
    rw [hh] at h
    simp only [Option.map_some, Option.some.injEq, Prod.mk.injEq] at h
    obtain ⟨h1, h2, h3⟩ := h
    cases hz : i.zero with
    | none => rw [hz] at h3; cases h3
    | some z => rw [hz] at h3; exact ⟨i, z, rfl, hz, h1, h2, Option.some.inj h3⟩
set_option maxHeartbeats 1000000 in
theorem fset32_bad (s : ByteArray) (o : Option Nat) (hP : ∀ w, Good w → PW32 w → Calls Tryz.prog 133 #[.string s, .int .i64 32] w (Num32Post w o true)) (w : World) (hg : Good w) (hw : PW32 w) (b mb fb vb : Nat) (ch : Bool) (h : Flagged w 118 b mb fb vb ch) (v0 : Value) (hc : w.cell? ⟨vb, 0, none⟩ = some v0) :
    Calls Tryz.prog 72 #[.pointer (some ⟨b, 0, none⟩), .string xN, .string s] w fun e w' => ∃ er y ch', Is32 o y ∧ e = .returned er ∧ ErrN true er ∧ Flagged w' 118 b mb fb vb ch' ∧ w'.cell? ⟨vb, 0, none⟩ = some (.float .f32 y) ∧ Frame3 b fb vb w w' := by
  obtain ⟨Q, hQ⟩ : ∃ Q : Ending → World → Prop, Q = fun e w' => ∃ er y ch', Is32 o y ∧ e = .returned er ∧ ErrN true er ∧ Flagged w' 118 b mb fb vb ch' ∧ w'.cell? ⟨vb, 0, none⟩ = some (.float .f32 y) ∧ Frame3 b fb vb w w' := ⟨_, rfl⟩
  rw [← hQ]
  have HQ := Lib.hid hQ
  have HN := Lib.hid (fun n => norm_run w b h.nf n)
  have HS := Lib.hid (set32 s o true hP w hg hw vb v0 h.lt.2.2.2 hc h.zv)
  have h1 := h.fm
  have h2 := lkOk_x w mb fb h.mp
  have h3 := h.vl
  have hm := fun w => m_set32 ⟨vb, 0, none⟩ w
  have HF := Lib.hid h
  clear hQ hP hg hw h hc
  go_enter Tryz.func72, Tryz.ntmps72
  go_wp2_with (first | (go_at_call 131; refine (HN.out _).mono ?_; rintro r w1 ⟨rfl, rfl⟩) | (go_at_call 74; refine HS.out.mono ?_; rintro r w2 ⟨er, y, hy, rfl, hE, hgr, hc2, hz2⟩; obtain ⟨N, rfl⟩ : ∃ N, er = .iface 258 (.pointer (some ⟨N, 0, none⟩)) := hE))
  rw [HQ.out]
  have hF2 := HF.out.val hgr hz2
  exact ⟨_, y, ch, hy, rfl, ⟨_, _, rfl⟩, hF2.on (below_alloc _ _), ((below_alloc _ _).cell (p := ⟨vb, 0, none⟩) hF2.lt.2.2.2).trans hc2, (Frame3.of hgr).then (below_alloc _ _)⟩
set_option maxHeartbeats 1000000 in
theorem fset32_keep (s : ByteArray) (o : Option Nat) (hP : ∀ w, Good w → PW32 w → Calls Tryz.prog 133 #[.string s, .int .i64 32] w (Num32Post w o false)) (w : World) (hg : Good w) (hw : PW32 w) (b mb fb vb : Nat) (h : Flagged w 118 b mb fb vb true) (v0 : Value) (hc : w.cell? ⟨vb, 0, none⟩ = some v0) :
    Calls Tryz.prog 72 #[.pointer (some ⟨b, 0, none⟩), .string xN, .string s] w fun e w' => ∃ er y ch', Is32 o y ∧ e = .returned er ∧ ErrN false er ∧ Flagged w' 118 b mb fb vb ch' ∧ w'.cell? ⟨vb, 0, none⟩ = some (.float .f32 y) ∧ Frame3 b fb vb w w' := by
  obtain ⟨Q, hQ⟩ : ∃ Q : Ending → World → Prop, Q = fun e w' => ∃ er y ch', Is32 o y ∧ e = .returned er ∧ ErrN false er ∧ Flagged w' 118 b mb fb vb ch' ∧ w'.cell? ⟨vb, 0, none⟩ = some (.float .f32 y) ∧ Frame3 b fb vb w w' := ⟨_, rfl⟩
  rw [← hQ]
  have HQ := Lib.hid hQ
  have HN := Lib.hid (fun n => norm_run w b h.nf n)
  have HS := Lib.hid (set32 s o false hP w hg hw vb v0 h.lt.2.2.2 hc h.zv)
  have h1 := h.fm
  have h2 := lkOk_x w mb fb h.mp
  have h3 := h.vl
  have hm := fun w => m_set32 ⟨vb, 0, none⟩ w
  have HF := Lib.hid h
  clear hQ hP hg hw h hc
  go_enter Tryz.func72, Tryz.ntmps72
  go_wp2_with (first | (go_at_call 131; refine (HN.out _).mono ?_; rintro r w1 ⟨rfl, rfl⟩) | (go_at_call 74; refine HS.out.mono ?_; rintro r w2 ⟨er, y, hy, rfl, hE, hgr, hc2, hz2⟩; obtain rfl : er = .nilIface := hE; have HF2 := Lib.hid (HF.out.val hgr hz2); have h5 := HF2.out.cg))
  rw [HQ.out]
  exact ⟨_, y, true, hy, rfl, rfl, HF2.out, hc2, Frame3.of hgr⟩
set_option maxHeartbeats 1000000 in
theorem fset32_first (s : ByteArray) (o : Option Nat) (hP : ∀ w, Good w → PW32 w → Calls Tryz.prog 133 #[.string s, .int .i64 32] w (Num32Post w o false)) (w : World) (hg : Good w) (hw : PW32 w) (b mb fb vb : Nat) (h : Flagged w 118 b mb fb vb false) (v0 : Value) (hc : w.cell? ⟨vb, 0, none⟩ = some v0) :
    Calls Tryz.prog 72 #[.pointer (some ⟨b, 0, none⟩), .string xN, .string s] w fun e w' => ∃ er y ch', Is32 o y ∧ e = .returned er ∧ ErrN false er ∧ Flagged w' 118 b mb fb vb ch' ∧ w'.cell? ⟨vb, 0, none⟩ = some (.float .f32 y) ∧ Frame3 b fb vb w w' := by
  obtain ⟨Q, hQ⟩ : ∃ Q : Ending → World → Prop, Q = fun e w' => ∃ er y ch', Is32 o y ∧ e = .returned er ∧ ErrN false er ∧ Flagged w' 118 b mb fb vb ch' ∧ w'.cell? ⟨vb, 0, none⟩ = some (.float .f32 y) ∧ Frame3 b fb vb w w' := ⟨_, rfl⟩
  rw [← hQ]
  have HQ := Lib.hid hQ
  have HN := Lib.hid (fun n => norm_run w b h.nf n)
  have HS := Lib.hid (set32 s o false hP w hg hw vb v0 h.lt.2.2.2 hc h.zv)
  have h1 := h.fm
  have h2 := lkOk_x w mb fb h.mp
  have h3 := h.vl
  have hm := fun w => m_set32 ⟨vb, 0, none⟩ w
  have HF := Lib.hid h
  have hmm := @run_makeMap Tryz.prog
  have hmn : ∀ w, (binOp .eql 176 (.map none) (.map none)).run Tryz.prog w = .ok (.bool true) w := fun w => by kernel_rfl
  clear hQ hP hg hw h hc
  go_enter Tryz.func72, Tryz.ntmps72
  go_wp2_with (first | (go_at_call 131; refine (HN.out _).mono ?_; rintro r w1 ⟨rfl, rfl⟩) | (go_at_call 74; refine HS.out.mono ?_; rintro r w2 ⟨er, y, hy, rfl, hE, hgr, hc2, hz2⟩; obtain rfl : er = .nilIface := hE; have HF2 := Lib.hid (HF.out.val hgr hz2); have h5 := HF2.out.cg; obtain ⟨h6, h7⟩ := HF2.out.ac rfl; have hzb := HF2.out.zb 5; have hzb6 := HF2.out.zb 6; have hzf := HF2.out.zf 5; have hlb := HF2.out.lt.1; have hlf := HF2.out.lt.2.2.1; have hnb : b ≠ w2.heap.size := Nat.ne_of_lt hlb; have hnf : fb ≠ w2.heap.size := Nat.ne_of_lt hlf))
  obtain ⟨m, hm0⟩ : ∃ m, m = w2.heap.size := ⟨_, rfl⟩
  rw [← hm0] at hnb hnf ⊢
  generalize hW : World.alloc _ _ = W
  have hWm : W.heap[m]? = some (mobj []) := by
    rw [← hW, hm0]
    have := heap_alloc_new (w2.setCell ⟨b, 5, none⟩ (.map (some w2.heap.size))) (.map #[] 0)
    have hs : (w2.setCell ⟨b, 5, none⟩ (.map (some w2.heap.size))).heap.size = w2.heap.size := by simp [World.setCell]
    rw [hs] at this
    exact this
  have hU := run_mapUpd u176 u187 W m [] xN (.pointer (some ⟨fb, 0, none⟩)) hWm
  have hWs : W.heap.size = m + 1 := by rw [← hW, hm0]; simp [World.setCell]
  have hWc : ∀ a : Addr, a.block < m → a ≠ ⟨b, 5, none⟩ → W.cell? a = w2.cell? a := fun a ha hne => by
    rw [← hW]
    rw [World.cell?_of_block (Below.heap_alloc _ _ a.block (by simp [World.setCell]; omega))]
    exact World.cell?_setCell_other _ _ _ _ (fun e => hne e.symm)
  have hWz : ∀ a : Addr, a.block < m → W.frozen? a = w2.frozen? a := fun a ha => by
    rw [← hW]
    rw [World.frozen?_of_block (Below.heap_alloc _ _ a.block (by simp [World.setCell]; omega))]
    exact World.frozen?_setCell _ _ _ _
  have hWb : ∀ k, k < m → k ≠ b → W.heap[k]? = w2.heap[k]? := fun k hk hne => by
    rw [← hW, Below.heap_alloc _ _ k (by simp [World.setCell]; omega)]
    exact Below.heap_setCell _ _ _ _ hne
  have hWo : W.os = w2.os ∧ W.tape = w2.tape ∧ W.output = w2.output := by rw [← hW]; exact ⟨rfl, rfl, rfl⟩
  obtain ⟨V, hV⟩ : ∃ V, V = setO W m (mobj (upd [] xN (.pointer (some ⟨fb, 0, none⟩)))) := ⟨_, rfl⟩
  rw [← hV] at hU
  have hVs : V.heap.size = m + 1 := by rw [hV, setO_size]; exact hWs
  have hVb : ∀ k, k < m → V.heap[k]? = W.heap[k]? := fun k hk => by rw [hV]; exact setO_other _ _ _ _ (by omega)
  have hVo : V.os = w2.os ∧ V.tape = w2.tape ∧ V.output = w2.output := by rw [hV]; exact hWo
  have hVc : ∀ a : Addr, a.block < m → a ≠ ⟨b, 5, none⟩ → V.cell? a = w2.cell? a := fun a ha hne => (World.cell?_of_block (hVb a.block ha)).trans (hWc a ha hne)
  have hVz : ∀ a : Addr, a.block < m → V.frozen? a = w2.frozen? a := fun a ha => (World.frozen?_of_block (hVb a.block ha)).trans (hWz a ha)
  have hV6 : V.cell? ⟨b, 6, none⟩ = some (.slice none 0 0) := (hVc ⟨b, 6, none⟩ (by show b < m; omega) (by simp)).trans h7
  obtain ⟨hne1, hne2, hne3, hne4, hne5, hne6⟩ := HF2.out.ne
  have hV5 : V.cell? ⟨fb, 5, none⟩ = some (.bool false) := (hVc ⟨fb, 5, none⟩ (by show fb < m; omega) (by simp)).trans h5
  have hVvb : V.cell? ⟨vb, 0, none⟩ = some (.float .f32 y) := (hVc ⟨vb, 0, none⟩ (by show vb < m; have := HF2.out.lt.2.2.2; omega) (by simp)).trans hc2
  have HV := Lib.hid (And.intro hVs (And.intro hVb (And.intro hVo (And.intro hVc (And.intro hVz (And.intro hWb hV))))))
  obtain ⟨i0, z0, hi0, hz0, hs0, hbb0, hzs⟩ := info189
  have hbf : b ≠ fb := hne2
  have hzV6 : V.frozen? ⟨b, 6, none⟩ = false := (hVz ⟨b, 6, none⟩ (by show b < m; omega)).trans hzb6
  have hzV5 : V.frozen? ⟨fb, 5, none⟩ = false := (hVz ⟨fb, 5, none⟩ (by show fb < m; omega)).trans hzf
  have HL := Lib.hid (And.intro (show b < V.heap.size by omega) (show fb < V.heap.size by omega))
  have HV6 := Lib.hid (And.intro hV5 (And.intro hzV6 hzV5))
  have HY := Lib.hid (And.intro hy (And.intro hgr (And.intro hc2 hz2)))
  clear hVs hVb hVo hVc hVz hWb hV hWs hWc hWz hWo hWm hW hV5 hzV6 hzV5 h1 h2 h3 h5 h6 h7 hm hmm hmn hzb hzb6 hzf hlb hlf hnb hnf hne1 hne3 hne4 hne5 hne6 hy hgr hc2 hz2 hne2 hVvb
  rw [hU]
  go_wp2_with (at_builtin; refine wpList_append_lies _ rfl _ _ 177 rfl V.heap.size 189 i0 z0 1 8 u177 hi0 hz0 hs0 hbb0 hzs (by decide) (.slice none 0 0) 0 [] rfl ⟨rfl, Or.inl ⟨rfl, rfl⟩⟩ ⟨V.heap.size, 0, none⟩ 1 1 [.pointer (some ⟨fb, 0, none⟩)] rfl rfl (World.news_of_block (cs := #[.pointer (some ⟨fb, 0, none⟩)]) (t := 189) (fr := (0, 0)) (heap_alloc_new _ _)) (by simp [Value.oneCell']) (by decide) (by decide) (by decide) (by simp) _ rfl ?_; intro gg cap2 w4 ho4 hg4 ha4 hlt4; have hB4 : ∀ k, k < V.heap.size → w4.heap[k]? = V.heap[k]? := fun k hk => (hg4.block k (Nat.lt_of_lt_of_le hk (Nat.le_of_lt (by simp))) (by simp [Value.ownBlock])).trans (Below.heap_alloc _ _ k hk); have h64 : w4.cell? ⟨b, 6, none⟩ = some (.slice none 0 0) := (World.cell?_of_block (hB4 b HL.out.1)).trans hV6; have h54 : w4.cell? ⟨fb, 5, none⟩ = some (.bool false) := (World.cell?_of_block (hB4 fb HL.out.2)).trans HV6.out.1; have z64 : w4.frozen? ⟨b, 6, none⟩ = false := (World.frozen?_of_block (hB4 b HL.out.1)).trans HV6.out.2.1; have z54 : w4.frozen? ⟨fb, 5, none⟩ = false := (World.frozen?_of_block (hB4 fb HL.out.2)).trans HV6.out.2.2; have HB4 := Lib.hid hB4; have HG4 := Lib.hid hg4; clear hB4 hg4 ho4 ha4 hlt4)
  rw [HQ.out]
  obtain ⟨hVs, hVb, hVo, hVc, hVz, hWb, hV⟩ := HV.out
  obtain ⟨hy, hgr, hc2, hz2⟩ := HY.out
  obtain ⟨f1, f2, f3, f4, f5, f6, f7, f8, f9, f10, f11⟩ := HF2.out
  obtain ⟨l1, l2, l3, l4⟩ := f1
  obtain ⟨n1, n2, n3, n4, n5, n6⟩ := f2
  have hB4 := HB4.out
  have hg4 := HG4.out
  have hsz : m ≤ w4.heap.size := by
    have := hg4.size
    simp at this
    omega
  -- cells of w4
  have c4 : ∀ a : Addr, a.block < m → a ≠ ⟨b, 5, none⟩ → w4.cell? a = w2.cell? a := fun a ha hne => (World.cell?_of_block (hB4 a.block (by omega))).trans (hVc a ha hne)
  have zz4 : ∀ a : Addr, a.block < m → w4.frozen? a = w2.frozen? a := fun a ha => (World.frozen?_of_block (hB4 a.block (by omega))).trans (hVz a ha)
  have b4 : ∀ k, k < m → k ≠ b → w4.heap[k]? = w2.heap[k]? := fun k hk hne => (hB4 k (by omega)).trans ((hVb k hk).trans (hWb k hk hne))
  obtain ⟨X, hX⟩ : ∃ X, X = (w4.setCell ⟨b, 6, none⟩ (.slice (some ⟨gg, 0, none⟩) 1 cap2)).setCell ⟨fb, 5, none⟩ (.bool true) := ⟨_, rfl⟩
  have xs : X.heap.size = w4.heap.size := by rw [hX]; simp [World.setCell]
  have xb : ∀ k, k < m → k ≠ b → k ≠ fb → X.heap[k]? = w2.heap[k]? := fun k hk h1 h2 => by
    rw [hX, Below.heap_setCell _ _ _ _ h2, Below.heap_setCell _ _ _ _ h1]
    exact b4 k hk h1
  have xc : ∀ a : Addr, a.block < m → a ≠ ⟨b, 5, none⟩ → a ≠ ⟨b, 6, none⟩ → a ≠ ⟨fb, 5, none⟩ → X.cell? a = w2.cell? a := fun a ha h1 h2 h3 => by
    rw [hX, World.cell?_setCell_other _ _ _ _ (fun e => h3 e.symm), World.cell?_setCell_other _ _ _ _ (fun e => h2 e.symm)]
    exact c4 a ha h1
  have xz : ∀ a : Addr, a.block < m → X.frozen? a = w2.frozen? a := fun a ha => by
    rw [hX, World.frozen?_setCell, World.frozen?_setCell]
    exact zz4 a ha
  have x5 : X.cell? ⟨fb, 5, none⟩ = some (.bool true) := by
    rw [hX]
    refine World.cell?_setCell_same _ _ _ (u := .bool false) ?_
    rw [World.cell?_setCell_other _ _ _ _ (by intro e; exact n2 (congrArg Addr.block e))]
    exact h54
  have hbb : b < m := by omega
  have hfb : fb < m := by omega
  have hvb : vb < m := by omega
  have hmb : mb < m := by omega
  have hXo : X.os = w2.os ∧ X.tape = w2.tape ∧ X.output = w2.output := by
    rw [hX]
    exact ⟨hg4.os.trans hVo.1, hg4.tape.trans hVo.2.1, hg4.output.trans hVo.2.2⟩
  rw [← hX]
  refine ⟨_, y, true, hy, rfl, rfl, ⟨⟨by omega, by omega, by omega, by omega⟩, ⟨n1, n2, n3, n4, n5, n6⟩, ?_, ?_, ?_, ?_, x5, ?_, ?_, ?_, fun hc => (by cases hc)⟩, ?_, ?_⟩
  · exact (xc ⟨b, 8, none⟩ hbb (by simp) (by simp) (by intro e; exact n2 (congrArg Addr.block e))).trans f3
  · exact (xc ⟨b, 16, none⟩ hbb (by simp) (by simp) (by intro e; exact n2 (congrArg Addr.block e))).trans f4
  · exact (xb mb hmb (fun e => n1 e.symm) n4).trans f5
  · exact (xc ⟨fb, 3, none⟩ hfb (by intro e; exact n2 (congrArg Addr.block e).symm) (by intro e; exact n2 (congrArg Addr.block e).symm) (by simp)).trans f6
  · exact fun k => (xz ⟨b, k, none⟩ hbb).trans (f8 k)
  · exact fun k => (xz ⟨fb, k, none⟩ hfb).trans (f9 k)
  · exact (xz ⟨vb, 0, none⟩ hvb).trans hz2
  · exact (xc ⟨vb, 0, none⟩ hvb (by intro e; exact n3 (congrArg Addr.block e).symm) (by intro e; exact n3 (congrArg Addr.block e).symm) (by intro e; exact n6 (congrArg Addr.block e).symm)).trans hc2
  · have hf := Frame3.of (b := b) (fb := fb) hgr
    refine ⟨hXo.1.trans hf.os, hXo.2.1.trans hf.tape, hXo.2.2.trans hf.output, ?_, fun k hk h1 h2 h3 => ?_⟩
    · have := hf.size
      omega
    · have := hf.size
      exact (xb k (by omega) h1 h2).trans (hf.block k hk h1 h2 h3)
set_option maxHeartbeats 1000000 in
theorem fset64_bad (s : ByteArray) (f : Nat) (hP : ∀ w, Good w → PW w → Calls Tryz.prog 133 #[.string s, .int .i64 64] w (NumPost w (.float .f64 f) true)) (w : World) (hg : Good w) (hw : PW w) (b mb fb vb : Nat) (ch : Bool) (h : Flagged w 122 b mb fb vb ch) (v0 : Value) (hc : w.cell? ⟨vb, 0, none⟩ = some v0) :
    Calls Tryz.prog 72 #[.pointer (some ⟨b, 0, none⟩), .string xN, .string s] w fun e w' => ∃ er ch', e = .returned er ∧ ErrN true er ∧ Flagged w' 122 b mb fb vb ch' ∧ w'.cell? ⟨vb, 0, none⟩ = some (.float .f64 f) ∧ Frame3 b fb vb w w' := by
  obtain ⟨Q, hQ⟩ : ∃ Q : Ending → World → Prop, Q = fun e w' => ∃ er ch', e = .returned er ∧ ErrN true er ∧ Flagged w' 122 b mb fb vb ch' ∧ w'.cell? ⟨vb, 0, none⟩ = some (.float .f64 f) ∧ Frame3 b fb vb w w' := ⟨_, rfl⟩
  rw [← hQ]
  have HQ := Lib.hid hQ
  have HN := Lib.hid (fun n => norm_run w b h.nf n)
  have HS := Lib.hid (set64 s f true hP w hg hw vb v0 h.lt.2.2.2 hc h.zv)
  have h1 := h.fm
  have h2 := lkOk_x w mb fb h.mp
  have h3 := h.vl
  have hm := fun w => m_set64 ⟨vb, 0, none⟩ w
  have HF := Lib.hid h
  clear hQ hP hg hw h hc
  go_enter Tryz.func72, Tryz.ntmps72
  go_wp2_with (first | (go_at_call 131; refine (HN.out _).mono ?_; rintro r w1 ⟨rfl, rfl⟩) | (go_at_call 77; refine HS.out.mono ?_; rintro r w2 ⟨er, rfl, hE, hgr, hc2, hz2⟩; obtain ⟨N, rfl⟩ : ∃ N, er = .iface 258 (.pointer (some ⟨N, 0, none⟩)) := hE))
  rw [HQ.out]
  have hF2 := HF.out.val hgr hz2
  exact ⟨_, ch, rfl, ⟨_, _, rfl⟩, hF2.on (below_alloc _ _), ((below_alloc _ _).cell (p := ⟨vb, 0, none⟩) hF2.lt.2.2.2).trans hc2, (Frame3.of hgr).then (below_alloc _ _)⟩
set_option maxHeartbeats 1000000 in
theorem fset64_keep (s : ByteArray) (f : Nat) (hP : ∀ w, Good w → PW w → Calls Tryz.prog 133 #[.string s, .int .i64 64] w (NumPost w (.float .f64 f) false)) (w : World) (hg : Good w) (hw : PW w) (b mb fb vb : Nat) (h : Flagged w 122 b mb fb vb true) (v0 : Value) (hc : w.cell? ⟨vb, 0, none⟩ = some v0) :
    Calls Tryz.prog 72 #[.pointer (some ⟨b, 0, none⟩), .string xN, .string s] w fun e w' => ∃ er ch', e = .returned er ∧ ErrN false er ∧ Flagged w' 122 b mb fb vb ch' ∧ w'.cell? ⟨vb, 0, none⟩ = some (.float .f64 f) ∧ Frame3 b fb vb w w' := by
  obtain ⟨Q, hQ⟩ : ∃ Q : Ending → World → Prop, Q = fun e w' => ∃ er ch', e = .returned er ∧ ErrN false er ∧ Flagged w' 122 b mb fb vb ch' ∧ w'.cell? ⟨vb, 0, none⟩ = some (.float .f64 f) ∧ Frame3 b fb vb w w' := ⟨_, rfl⟩
  rw [← hQ]
  have HQ := Lib.hid hQ
  have HN := Lib.hid (fun n => norm_run w b h.nf n)
  have HS := Lib.hid (set64 s f false hP w hg hw vb v0 h.lt.2.2.2 hc h.zv)
  have h1 := h.fm
  have h2 := lkOk_x w mb fb h.mp
  have h3 := h.vl
  have hm := fun w => m_set64 ⟨vb, 0, none⟩ w
  have HF := Lib.hid h
  clear hQ hP hg hw h hc
  go_enter Tryz.func72, Tryz.ntmps72
  go_wp2_with (first | (go_at_call 131; refine (HN.out _).mono ?_; rintro r w1 ⟨rfl, rfl⟩) | (go_at_call 77; refine HS.out.mono ?_; rintro r w2 ⟨er, rfl, hE, hgr, hc2, hz2⟩; obtain rfl : er = .nilIface := hE; have HF2 := Lib.hid (HF.out.val hgr hz2); have h5 := HF2.out.cg))
  rw [HQ.out]
  exact ⟨_, true, rfl, rfl, HF2.out, hc2, Frame3.of hgr⟩
set_option maxHeartbeats 1000000 in
theorem fset64_first (s : ByteArray) (f : Nat) (hP : ∀ w, Good w → PW w → Calls Tryz.prog 133 #[.string s, .int .i64 64] w (NumPost w (.float .f64 f) false)) (w : World) (hg : Good w) (hw : PW w) (b mb fb vb : Nat) (h : Flagged w 122 b mb fb vb false) (v0 : Value) (hc : w.cell? ⟨vb, 0, none⟩ = some v0) :
    Calls Tryz.prog 72 #[.pointer (some ⟨b, 0, none⟩), .string xN, .string s] w fun e w' => ∃ er ch', e = .returned er ∧ ErrN false er ∧ Flagged w' 122 b mb fb vb ch' ∧ w'.cell? ⟨vb, 0, none⟩ = some (.float .f64 f) ∧ Frame3 b fb vb w w' := by
  obtain ⟨Q, hQ⟩ : ∃ Q : Ending → World → Prop, Q = fun e w' => ∃ er ch', e = .returned er ∧ ErrN false er ∧ Flagged w' 122 b mb fb vb ch' ∧ w'.cell? ⟨vb, 0, none⟩ = some (.float .f64 f) ∧ Frame3 b fb vb w w' := ⟨_, rfl⟩
  rw [← hQ]
  have HQ := Lib.hid hQ
  have HN := Lib.hid (fun n => norm_run w b h.nf n)
  have HS := Lib.hid (set64 s f false hP w hg hw vb v0 h.lt.2.2.2 hc h.zv)
  have h1 := h.fm
  have h2 := lkOk_x w mb fb h.mp
  have h3 := h.vl
  have hm := fun w => m_set64 ⟨vb, 0, none⟩ w
  have HF := Lib.hid h
  have hmm := @run_makeMap Tryz.prog
  have hmn : ∀ w, (binOp .eql 176 (.map none) (.map none)).run Tryz.prog w = .ok (.bool true) w := fun w => by kernel_rfl
  clear hQ hP hg hw h hc
  go_enter Tryz.func72, Tryz.ntmps72
  go_wp2_with (first | (go_at_call 131; refine (HN.out _).mono ?_; rintro r w1 ⟨rfl, rfl⟩) | (go_at_call 77; refine HS.out.mono ?_; rintro r w2 ⟨er, rfl, hE, hgr, hc2, hz2⟩; obtain rfl : er = .nilIface := hE; have HF2 := Lib.hid (HF.out.val hgr hz2); have h5 := HF2.out.cg; obtain ⟨h6, h7⟩ := HF2.out.ac rfl; have hzb := HF2.out.zb 5; have hzb6 := HF2.out.zb 6; have hzf := HF2.out.zf 5; have hlb := HF2.out.lt.1; have hlf := HF2.out.lt.2.2.1; have hnb : b ≠ w2.heap.size := Nat.ne_of_lt hlb; have hnf : fb ≠ w2.heap.size := Nat.ne_of_lt hlf))
  obtain ⟨m, hm0⟩ : ∃ m, m = w2.heap.size := ⟨_, rfl⟩
  rw [← hm0] at hnb hnf ⊢
  generalize hW : World.alloc _ _ = W
  have hWm : W.heap[m]? = some (mobj []) := by
    rw [← hW, hm0]
    have := heap_alloc_new (w2.setCell ⟨b, 5, none⟩ (.map (some w2.heap.size))) (.map #[] 0)
    have hs : (w2.setCell ⟨b, 5, none⟩ (.map (some w2.heap.size))).heap.size = w2.heap.size := by simp [World.setCell]
    rw [hs] at this
    exact this
  have hU := run_mapUpd u176 u187 W m [] xN (.pointer (some ⟨fb, 0, none⟩)) hWm
  have hWs : W.heap.size = m + 1 := by rw [← hW, hm0]; simp [World.setCell]
  have hWc : ∀ a : Addr, a.block < m → a ≠ ⟨b, 5, none⟩ → W.cell? a = w2.cell? a := fun a ha hne => by
    rw [← hW]
    rw [World.cell?_of_block (Below.heap_alloc _ _ a.block (by simp [World.setCell]; omega))]
    exact World.cell?_setCell_other _ _ _ _ (fun e => hne e.symm)
  have hWz : ∀ a : Addr, a.block < m → W.frozen? a = w2.frozen? a := fun a ha => by
    rw [← hW]
    rw [World.frozen?_of_block (Below.heap_alloc _ _ a.block (by simp [World.setCell]; omega))]
    exact World.frozen?_setCell _ _ _ _
  have hWb : ∀ k, k < m → k ≠ b → W.heap[k]? = w2.heap[k]? := fun k hk hne => by
    rw [← hW, Below.heap_alloc _ _ k (by simp [World.setCell]; omega)]
    exact Below.heap_setCell _ _ _ _ hne
  have hWo : W.os = w2.os ∧ W.tape = w2.tape ∧ W.output = w2.output := by rw [← hW]; exact ⟨rfl, rfl, rfl⟩
  obtain ⟨V, hV⟩ : ∃ V, V = setO W m (mobj (upd [] xN (.pointer (some ⟨fb, 0, none⟩)))) := ⟨_, rfl⟩
  rw [← hV] at hU
  have hVs : V.heap.size = m + 1 := by rw [hV, setO_size]; exact hWs
  have hVb : ∀ k, k < m → V.heap[k]? = W.heap[k]? := fun k hk => by rw [hV]; exact setO_other _ _ _ _ (by omega)
  have hVo : V.os = w2.os ∧ V.tape = w2.tape ∧ V.output = w2.output := by rw [hV]; exact hWo
  have hVc : ∀ a : Addr, a.block < m → a ≠ ⟨b, 5, none⟩ → V.cell? a = w2.cell? a := fun a ha hne => (World.cell?_of_block (hVb a.block ha)).trans (hWc a ha hne)
  have hVz : ∀ a : Addr, a.block < m → V.frozen? a = w2.frozen? a := fun a ha => (World.frozen?_of_block (hVb a.block ha)).trans (hWz a ha)
  have hV6 : V.cell? ⟨b, 6, none⟩ = some (.slice none 0 0) := (hVc ⟨b, 6, none⟩ (by show b < m; omega) (by simp)).trans h7
  obtain ⟨hne1, hne2, hne3, hne4, hne5, hne6⟩ := HF2.out.ne
  have hV5 : V.cell? ⟨fb, 5, none⟩ = some (.bool false) := (hVc ⟨fb, 5, none⟩ (by show fb < m; omega) (by simp)).trans h5
  have hVvb : V.cell? ⟨vb, 0, none⟩ = some (.float .f64 f) := (hVc ⟨vb, 0, none⟩ (by show vb < m; have := HF2.out.lt.2.2.2; omega) (by simp)).trans hc2
  have HV := Lib.hid (And.intro hVs (And.intro hVb (And.intro hVo (And.intro hVc (And.intro hVz (And.intro hWb hV))))))
  obtain ⟨i0, z0, hi0, hz0, hs0, hbb0, hzs⟩ := info189
  have hbf : b ≠ fb := hne2
  have hzV6 : V.frozen? ⟨b, 6, none⟩ = false := (hVz ⟨b, 6, none⟩ (by show b < m; omega)).trans hzb6
  have hzV5 : V.frozen? ⟨fb, 5, none⟩ = false := (hVz ⟨fb, 5, none⟩ (by show fb < m; omega)).trans hzf
  have HL := Lib.hid (And.intro (show b < V.heap.size by omega) (show fb < V.heap.size by omega))
  have HV6 := Lib.hid (And.intro hV5 (And.intro hzV6 hzV5))
  have HY := Lib.hid (And.intro hgr (And.intro hc2 hz2))
  clear hVs hVb hVo hVc hVz hWb hV hWs hWc hWz hWo hWm hW hV5 hzV6 hzV5 h1 h2 h3 h5 h6 h7 hm hmm hmn hzb hzb6 hzf hlb hlf hnb hnf hne1 hne3 hne4 hne5 hne6 hgr hc2 hz2 hne2 hVvb
  rw [hU]
  go_wp2_with (at_builtin; refine wpList_append_lies _ rfl _ _ 177 rfl V.heap.size 189 i0 z0 1 8 u177 hi0 hz0 hs0 hbb0 hzs (by decide) (.slice none 0 0) 0 [] rfl ⟨rfl, Or.inl ⟨rfl, rfl⟩⟩ ⟨V.heap.size, 0, none⟩ 1 1 [.pointer (some ⟨fb, 0, none⟩)] rfl rfl (World.news_of_block (cs := #[.pointer (some ⟨fb, 0, none⟩)]) (t := 189) (fr := (0, 0)) (heap_alloc_new _ _)) (by simp [Value.oneCell']) (by decide) (by decide) (by decide) (by simp) _ rfl ?_; intro gg cap2 w4 ho4 hg4 ha4 hlt4; have hB4 : ∀ k, k < V.heap.size → w4.heap[k]? = V.heap[k]? := fun k hk => (hg4.block k (Nat.lt_of_lt_of_le hk (Nat.le_of_lt (by simp))) (by simp [Value.ownBlock])).trans (Below.heap_alloc _ _ k hk); have h64 : w4.cell? ⟨b, 6, none⟩ = some (.slice none 0 0) := (World.cell?_of_block (hB4 b HL.out.1)).trans hV6; have h54 : w4.cell? ⟨fb, 5, none⟩ = some (.bool false) := (World.cell?_of_block (hB4 fb HL.out.2)).trans HV6.out.1; have z64 : w4.frozen? ⟨b, 6, none⟩ = false := (World.frozen?_of_block (hB4 b HL.out.1)).trans HV6.out.2.1; have z54 : w4.frozen? ⟨fb, 5, none⟩ = false := (World.frozen?_of_block (hB4 fb HL.out.2)).trans HV6.out.2.2; have HB4 := Lib.hid hB4; have HG4 := Lib.hid hg4; clear hB4 hg4 ho4 ha4 hlt4)
  rw [HQ.out]
  obtain ⟨hVs, hVb, hVo, hVc, hVz, hWb, hV⟩ := HV.out
  obtain ⟨hgr, hc2, hz2⟩ := HY.out
  obtain ⟨f1, f2, f3, f4, f5, f6, f7, f8, f9, f10, f11⟩ := HF2.out
  obtain ⟨l1, l2, l3, l4⟩ := f1
  obtain ⟨n1, n2, n3, n4, n5, n6⟩ := f2
  have hB4 := HB4.out
  have hg4 := HG4.out
  have hsz : m ≤ w4.heap.size := by
    have := hg4.size
    simp at this
    omega
  -- cells of w4
  have c4 : ∀ a : Addr, a.block < m → a ≠ ⟨b, 5, none⟩ → w4.cell? a = w2.cell? a := fun a ha hne => (World.cell?_of_block (hB4 a.block (by omega))).trans (hVc a ha hne)
  have zz4 : ∀ a : Addr, a.block < m → w4.frozen? a = w2.frozen? a := fun a ha => (World.frozen?_of_block (hB4 a.block (by omega))).trans (hVz a ha)
  have b4 : ∀ k, k < m → k ≠ b → w4.heap[k]? = w2.heap[k]? := fun k hk hne => (hB4 k (by omega)).trans ((hVb k hk).trans (hWb k hk hne))
  obtain ⟨X, hX⟩ : ∃ X, X = (w4.setCell ⟨b, 6, none⟩ (.slice (some ⟨gg, 0, none⟩) 1 cap2)).setCell ⟨fb, 5, none⟩ (.bool true) := ⟨_, rfl⟩
  have xs : X.heap.size = w4.heap.size := by rw [hX]; simp [World.setCell]
  have xb : ∀ k, k < m → k ≠ b → k ≠ fb → X.heap[k]? = w2.heap[k]? := fun k hk h1 h2 => by
    rw [hX, Below.heap_setCell _ _ _ _ h2, Below.heap_setCell _ _ _ _ h1]
    exact b4 k hk h1
  have xc : ∀ a : Addr, a.block < m → a ≠ ⟨b, 5, none⟩ → a ≠ ⟨b, 6, none⟩ → a ≠ ⟨fb, 5, none⟩ → X.cell? a = w2.cell? a := fun a ha h1 h2 h3 => by
    rw [hX, World.cell?_setCell_other _ _ _ _ (fun e => h3 e.symm), World.cell?_setCell_other _ _ _ _ (fun e => h2 e.symm)]
    exact c4 a ha h1
  have xz : ∀ a : Addr, a.block < m → X.frozen? a = w2.frozen? a := fun a ha => by
    rw [hX, World.frozen?_setCell, World.frozen?_setCell]
    exact zz4 a ha
  have x5 : X.cell? ⟨fb, 5, none⟩ = some (.bool true) := by
    rw [hX]
    refine World.cell?_setCell_same _ _ _ (u := .bool false) ?_
    rw [World.cell?_setCell_other _ _ _ _ (by intro e; exact n2 (congrArg Addr.block e))]
    exact h54
  have hbb : b < m := by omega
  have hfb : fb < m := by omega
  have hvb : vb < m := by omega
  have hmb : mb < m := by omega
  have hXo : X.os = w2.os ∧ X.tape = w2.tape ∧ X.output = w2.output := by
    rw [hX]
    exact ⟨hg4.os.trans hVo.1, hg4.tape.trans hVo.2.1, hg4.output.trans hVo.2.2⟩
  rw [← hX]
  refine ⟨_, true, rfl, rfl, ⟨⟨by omega, by omega, by omega, by omega⟩, ⟨n1, n2, n3, n4, n5, n6⟩, ?_, ?_, ?_, ?_, x5, ?_, ?_, ?_, fun hc => (by cases hc)⟩, ?_, ?_⟩
  · exact (xc ⟨b, 8, none⟩ hbb (by simp) (by simp) (by intro e; exact n2 (congrArg Addr.block e))).trans f3
  · exact (xc ⟨b, 16, none⟩ hbb (by simp) (by simp) (by intro e; exact n2 (congrArg Addr.block e))).trans f4
  · exact (xb mb hmb (fun e => n1 e.symm) n4).trans f5
  · exact (xc ⟨fb, 3, none⟩ hfb (by intro e; exact n2 (congrArg Addr.block e).symm) (by intro e; exact n2 (congrArg Addr.block e).symm) (by simp)).trans f6
  · exact fun k => (xz ⟨b, k, none⟩ hbb).trans (f8 k)
  · exact fun k => (xz ⟨fb, k, none⟩ hfb).trans (f9 k)
  · exact (xz ⟨vb, 0, none⟩ hvb).trans hz2
  · exact (xc ⟨vb, 0, none⟩ hvb (by intro e; exact n3 (congrArg Addr.block e).symm) (by intro e; exact n3 (congrArg Addr.block e).symm) (by intro e; exact n6 (congrArg Addr.block e).symm)).trans hc2
  · have hf := Frame3.of (b := b) (fb := fb) hgr
    refine ⟨hXo.1.trans hf.os, hXo.2.1.trans hf.tape, hXo.2.2.trans hf.output, ?_, fun k hk h1 h2 h3 => ?_⟩
    · have := hf.size
      omega
    · have := hf.size
      exact (xb k (by omega) h1 h2).trans (hf.block k hk h1 h2 h3)
/-- FlagSet.Set("x", s) on a flag of 32 bits. -/
theorem fset32 (s : ByteArray) (o : Option Nat) (bad : Bool) (hP : ∀ w, Good w → PW32 w → Calls Tryz.prog 133 #[.string s, .int .i64 32] w (Num32Post w o bad)) (w : World) (hg : Good w) (hw : PW32 w) (b mb fb vb : Nat) (ch : Bool) (h : Flagged w 118 b mb fb vb ch) (v0 : Value) (hc : w.cell? ⟨vb, 0, none⟩ = some v0) :
    Calls Tryz.prog 72 #[.pointer (some ⟨b, 0, none⟩), .string xN, .string s] w fun e w' => ∃ er y ch', Is32 o y ∧ e = .returned er ∧ ErrN bad er ∧ Flagged w' 118 b mb fb vb ch' ∧ w'.cell? ⟨vb, 0, none⟩ = some (.float .f32 y) ∧ Frame3 b fb vb w w' := by
  cases bad with
  | true => exact fset32_bad s o hP w hg hw b mb fb vb ch h v0 hc
  | false =>
    cases ch with
    | true => exact fset32_keep s o hP w hg hw b mb fb vb h v0 hc
    | false => exact fset32_first s o hP w hg hw b mb fb vb h v0 hc
/-- FlagSet.Set("x", s) on a flag of 64 bits. -/
theorem fset64 (s : ByteArray) (f : Nat) (bad : Bool) (hP : ∀ w, Good w → PW w → Calls Tryz.prog 133 #[.string s, .int .i64 64] w (NumPost w (.float .f64 f) bad)) (w : World) (hg : Good w) (hw : PW w) (b mb fb vb : Nat) (ch : Bool) (h : Flagged w 122 b mb fb vb ch) (v0 : Value) (hc : w.cell? ⟨vb, 0, none⟩ = some v0) :
    Calls Tryz.prog 72 #[.pointer (some ⟨b, 0, none⟩), .string xN, .string s] w fun e w' => ∃ er ch', e = .returned er ∧ ErrN bad er ∧ Flagged w' 122 b mb fb vb ch' ∧ w'.cell? ⟨vb, 0, none⟩ = some (.float .f64 f) ∧ Frame3 b fb vb w w' := by
  cases bad with
  | true => exact fset64_bad s f hP w hg hw b mb fb vb ch h v0 hc
  | false =>
    cases ch with
    | true => exact fset64_keep s f hP w hg hw b mb fb vb h v0 hc
    | false => exact fset64_first s f hP w hg hw b mb fb vb h v0 hc
end Go.Proofs.YtnggkkdcddpjlaaGreatDoor
