/- pflag's FlagSet: GetFloat32 and GetFloat64 of the flag x. pflag's FlagSet: a new one; the flag x is laid in it. -/
import Derived.Test.YtnggkkdcddpjlaaGreatDoorZ43
namespace Go.Proofs.YtnggkkdcddpjlaaGreatDoor
open Go.RowKit
set_option maxRecDepth 100000
set_option linter.unusedVariables false
set_option linter.unusedSimpArgs false
theorem as66 (v : Value) (w : World) : (Instr.typeAssert (.iface 66 v) 20 66 false).run Tryz.prog w = .ok v w := by kernel_rfl
theorem as25 (v : Value) (w : World) : (Instr.typeAssert (.iface 25 v) 20 25 false).run Tryz.prog w = .ok v w := by kernel_rfl
theorem ptr_nn (p : Addr) (w : World) : (binOp .eql 189 (.pointer (some p)) (.pointer none)).run Tryz.prog w = .ok (.bool false) w := by kernel_rfl
set_option maxHeartbeats 1000000 in
theorem gtyp32 (o : Option Nat) (ho : Ok32 o) (t : ByteArray) (ht : Shows32 o t) (y : Nat) (hy : Is32 o y) (w : World) (hg : Good w) (hw : PW32 w) (b mb fb vb : Nat) (ch : Bool) (h : Flagged w 118 b mb fb vb ch) (hc : w.cell? ⟨vb, 0, none⟩ = some (.float .f32 y)) :
    Calls Tryz.prog 127 #[.pointer (some ⟨b, 0, none⟩), .string xN, .string ⟨#[102, 108, 111, 97, 116, 51, 50]⟩, .func (.func 128) #[] #[]] w fun e w' => ∃ z, Is32 o z ∧ e = .returned (.tuple #[.iface 66 (.float .f32 z), .nilIface]) ∧ Below w.heap.size w w' := by
  obtain ⟨Q, hQ⟩ : ∃ Q : Ending → World → Prop, Q = fun e w' => ∃ z, Is32 o z ∧ e = .returned (.tuple #[.iface 66 (.float .f32 z), .nilIface]) ∧ Below w.heap.size w w' := ⟨_, rfl⟩
  rw [← hQ]
  have HQ := Lib.hid hQ
  have HL := Lib.hid (Look_run w 118 b mb fb vb ch h)
  have HS := Lib.hid (str32 o ho t ht y hy w hw.pow hg vb hc)
  have HC := Lib.hid (fun w hg hw => cnv32 o t ht w hg hw)
  have hm1 := fun w => m_typ32 ⟨vb, 0, none⟩ w
  have hm2 := fun w => m_str32 ⟨vb, 0, none⟩ w
  have hpn := fun w => ptr_nn ⟨fb, 0, none⟩ w
  have h3 := h.vl
  have HW := Lib.hid (And.intro hg hw)
  clear hQ hg hw h hc ho ht hy
  go_enter Tryz.func127, Tryz.ntmps127
  go_wp2_with (first | (go_at_call 169; refine HL.out.mono ?_; rintro r w1 ⟨rfl, rfl⟩) | (go_at_call 280; refine (typ32 _ _).mono ?_; rintro r w1 ⟨rfl, rfl⟩) | (go_at_call 75; refine HS.out.mono ?_; rintro r w2 ⟨rfl, hb2⟩; have hB2 := Lib.hid hb2; clear hb2) | (go_at_call 128; refine (HC.out _ (HW.out.1.on hB2.out) (HW.out.2.on hB2.out)).mono ?_; rintro r w3 ⟨z, hz, rfl, hb3⟩))
  all_goals (try go_ret3)
  all_goals rw [HQ.out]
  all_goals exact ⟨z, hz, rfl, hB2.out.trans (hb3.mono hB2.out.size)⟩
set_option maxHeartbeats 1000000 in
theorem getf32 (o : Option Nat) (ho : Ok32 o) (t : ByteArray) (ht : Shows32 o t) (y : Nat) (hy : Is32 o y) (w : World) (hg : Good w) (hw : PW32 w) (b mb fb vb : Nat) (ch : Bool) (h : Flagged w 118 b mb fb vb ch) (hc : w.cell? ⟨vb, 0, none⟩ = some (.float .f32 y)) :
    Calls Tryz.prog 68 #[.pointer (some ⟨b, 0, none⟩), .string xN] w fun e w' => ∃ z, Is32 o z ∧ e = .returned (.tuple #[.float .f32 z, .nilIface]) ∧ Below w.heap.size w w' := by
  obtain ⟨Q, hQ⟩ : ∃ Q : Ending → World → Prop, Q = fun e w' => ∃ z, Is32 o z ∧ e = .returned (.tuple #[.float .f32 z, .nilIface]) ∧ Below w.heap.size w w' := ⟨_, rfl⟩
  rw [← hQ]
  have HQ := Lib.hid hQ
  have HG := Lib.hid (gtyp32 o ho t ht y hy w hg hw b mb fb vb ch h hc)
  have ha := as66
  clear hQ hg hw h hc ho ht hy
  go_enter Tryz.func68, Tryz.ntmps68
  go_wp2_with (go_at_call 127; refine HG.out.mono ?_; rintro r w3 ⟨z, hz, rfl, hb3⟩)
  all_goals (try go_ret3)
  all_goals rw [HQ.out]
  all_goals exact ⟨z, hz, rfl, hb3⟩
set_option maxHeartbeats 1000000 in
theorem clo32 (o : Option Nat) (ho : Ok32 o) (t : ByteArray) (ht : Shows32 o t) (y : Nat) (hy : Is32 o y) (w : World) (hg : Good w) (hw : PW32 w) (b mb fb vb : Nat) (ch : Bool) (h : Flagged w 118 b mb fb vb ch) (hc : w.cell? ⟨vb, 0, none⟩ = some (.float .f32 y)) (fv : Nat) (hfv : w.cell? ⟨fv, 0, none⟩ = some (.pointer (some ⟨b, 0, none⟩))) :
    Calls Tryz.prog 67 #[.pointer (some ⟨fv, 0, none⟩)] w fun e w' => ∃ g, G32 o g ∧ e = .returned (.tuple #[.float .f64 g, .nilIface]) ∧ Below w.heap.size w w' := by
  obtain ⟨Q, hQ⟩ : ∃ Q : Ending → World → Prop, Q = fun e w' => ∃ g, G32 o g ∧ e = .returned (.tuple #[.float .f64 g, .nilIface]) ∧ Below w.heap.size w w' := ⟨_, rfl⟩
  rw [← hQ]
  have HQ := Lib.hid hQ
  have HG := Lib.hid (getf32 o ho t ht y hy w hg hw b mb fb vb ch h hc)
  have HO := Lib.hid ho
  clear hQ hg hw h hc ho ht hy
  go_enter Tryz.func67, Tryz.ntmps67
  go_wp2_with (go_at_call 68; refine HG.out.mono ?_; rintro r w3 ⟨z, hz, rfl, hb3⟩; obtain ⟨cv, cd, hcv, hcw⟩ := conv_to64 66 Tryz.underlying66 o HO.out z hz; have HCW := Lib.hid hcw; clear hcw hz)
  all_goals (try go_ret3)
  all_goals rw [HQ.out]
  all_goals exact ⟨_, HCW.out _, rfl, below_dn hb3 _⟩
set_option maxHeartbeats 1000000 in
theorem gtyp64 (f f' : Nat) (t : ByteArray) (ht : Shows64 f t f') (w : World) (hg : Good w) (hw : PW w) (b mb fb vb : Nat) (ch : Bool) (h : Flagged w 122 b mb fb vb ch) (hc : w.cell? ⟨vb, 0, none⟩ = some (.float .f64 f)) :
    Calls Tryz.prog 127 #[.pointer (some ⟨b, 0, none⟩), .string xN, .string ⟨#[102, 108, 111, 97, 116, 54, 52]⟩, .func (.func 130) #[] #[]] w fun e w' => e = .returned (.tuple #[.iface 25 (.float .f64 f'), .nilIface]) ∧ Below w.heap.size w w' := by
  obtain ⟨Q, hQ⟩ : ∃ Q : Ending → World → Prop, Q = fun e w' => e = .returned (.tuple #[.iface 25 (.float .f64 f'), .nilIface]) ∧ Below w.heap.size w w' := ⟨_, rfl⟩
  rw [← hQ]
  have HQ := Lib.hid hQ
  have HL := Lib.hid (Look_run w 122 b mb fb vb ch h)
  have HS := Lib.hid (str64 f f' t ht w hw.pow hg vb hc)
  have HC := Lib.hid (fun w hg hw => cnv64 f f' t ht w hg hw)
  have hm1 := fun w => m_typ64 ⟨vb, 0, none⟩ w
  have hm2 := fun w => m_str64 ⟨vb, 0, none⟩ w
  have hpn := fun w => ptr_nn ⟨fb, 0, none⟩ w
  have h3 := h.vl
  have HW := Lib.hid (And.intro hg hw)
  clear hQ hg hw h hc ht
  go_enter Tryz.func127, Tryz.ntmps127
  go_wp2_with (first | (go_at_call 169; refine HL.out.mono ?_; rintro r w1 ⟨rfl, rfl⟩) | (go_at_call 281; refine (typ64 _ _).mono ?_; rintro r w1 ⟨rfl, rfl⟩) | (go_at_call 78; refine HS.out.mono ?_; rintro r w2 ⟨rfl, hb2⟩; have hB2 := Lib.hid hb2; clear hb2) | (go_at_call 130; refine (HC.out _ (HW.out.1.on hB2.out) (HW.out.2.on hB2.out)).mono ?_; rintro r w3 ⟨rfl, hb3⟩))
  all_goals (try go_ret3)
  all_goals rw [HQ.out]
  all_goals exact ⟨rfl, hB2.out.trans (hb3.mono hB2.out.size)⟩
set_option maxHeartbeats 1000000 in
theorem getf64 (f f' : Nat) (t : ByteArray) (ht : Shows64 f t f') (w : World) (hg : Good w) (hw : PW w) (b mb fb vb : Nat) (ch : Bool) (h : Flagged w 122 b mb fb vb ch) (hc : w.cell? ⟨vb, 0, none⟩ = some (.float .f64 f)) :
    Calls Tryz.prog 71 #[.pointer (some ⟨b, 0, none⟩), .string xN] w fun e w' => e = .returned (.tuple #[.float .f64 f', .nilIface]) ∧ Below w.heap.size w w' := by
  obtain ⟨Q, hQ⟩ : ∃ Q : Ending → World → Prop, Q = fun e w' => e = .returned (.tuple #[.float .f64 f', .nilIface]) ∧ Below w.heap.size w w' := ⟨_, rfl⟩
  rw [← hQ]
  have HQ := Lib.hid hQ
  have HG := Lib.hid (gtyp64 f f' t ht w hg hw b mb fb vb ch h hc)
  have ha := as25
  clear hQ hg hw h hc ht
  go_enter Tryz.func71, Tryz.ntmps71
  go_wp2_with (go_at_call 127; refine HG.out.mono ?_; rintro r w3 ⟨rfl, hb3⟩)
  all_goals (try go_ret3)
  all_goals rw [HQ.out]
  all_goals exact ⟨rfl, hb3⟩
set_option maxHeartbeats 1000000 in
theorem clo64 (f f' : Nat) (t : ByteArray) (ht : Shows64 f t f') (w : World) (hg : Good w) (hw : PW w) (b mb fb vb : Nat) (ch : Bool) (h : Flagged w 122 b mb fb vb ch) (hc : w.cell? ⟨vb, 0, none⟩ = some (.float .f64 f)) (fv : Nat) (hfv : w.cell? ⟨fv, 0, none⟩ = some (.pointer (some ⟨b, 0, none⟩))) :
    Calls Tryz.prog 70 #[.pointer (some ⟨fv, 0, none⟩)] w fun e w' => e = .returned (.tuple #[.float .f64 f', .nilIface]) ∧ Below w.heap.size w w' := by
  obtain ⟨Q, hQ⟩ : ∃ Q : Ending → World → Prop, Q = fun e w' => e = .returned (.tuple #[.float .f64 f', .nilIface]) ∧ Below w.heap.size w w' := ⟨_, rfl⟩
  rw [← hQ]
  have HQ := Lib.hid hQ
  have HG := Lib.hid (getf64 f f' t ht w hg hw b mb fb vb ch h hc)

  clear hQ hg hw h hc ht
  go_enter Tryz.func70, Tryz.ntmps70
  go_wp2_with (go_at_call 71; refine HG.out.mono ?_; rintro r w3 ⟨rfl, hb3⟩; skip)
  all_goals (try go_ret3)
  all_goals rw [HQ.out]
  all_goals exact ⟨rfl, hb3⟩
end Go.Proofs.YtnggkkdcddpjlaaGreatDoor
namespace Go.Proofs.YtnggkkdcddpjlaaGreatDoor
open Go.RowKit
set_option maxRecDepth 100000
set_option linter.unusedVariables false
set_option linter.unusedSimpArgs false
/-- A new flag set's cells. -/
def fsNew : Array Value := #[.bool true, .bool false, .bool false, .string ⟨#[]⟩, .bool false, .map none, .slice none 0 0, .slice none 0 0, .map none, .slice none 0 0, .slice none 0 0, .map none, .slice none 0 0, .int .i64 (-1), .int .i64 0, .bool true, .nilFunc]
theorem newfs_run (w : World) : Calls Tryz.prog 65 #[.string ⟨#[]⟩, .int .i64 0] w fun e w' => e = .returned (.pointer (some ⟨w.heap.size, 0, none⟩)) ∧ w' = w.alloc (.cells fsNew 181) := by
  go_enter Tryz.func65, Tryz.ntmps65
  go_wp2
  go_ret
  exact ⟨rfl, rfl⟩
/-- A flag set without a flag. -/
structure Bare (w : World) (b : Nat) : Prop where
  lt : b < w.heap.size
  fm : w.cell? ⟨b, 8, none⟩ = some (.map none)
  fo : w.cell? ⟨b, 9, none⟩ = some (.slice none 0 0)
  nf : w.cell? ⟨b, 16, none⟩ = some .nilFunc
  am : w.cell? ⟨b, 5, none⟩ = some (.map none)
  ao : w.cell? ⟨b, 6, none⟩ = some (.slice none 0 0)
  zb : ∀ k, w.frozen? ⟨b, k, none⟩ = false
theorem bare_new (w : World) : Bare (w.alloc (.cells fsNew 181)) w.heap.size := by
  have hc : ∀ i, (w.alloc (.cells fsNew 181)).cell? ⟨w.heap.size, i, none⟩ = fsNew[i]? := fun i => World.cell?_alloc_at fsNew 181 w.heap.size i rfl
  exact ⟨by simp, (hc 8).trans rfl, (hc 9).trans rfl, (hc 16).trans rfl, (hc 5).trans rfl, (hc 6).trans rfl, fun i => World.frozen?_alloc_at fsNew 181 w.heap.size i rfl⟩
theorem Bare.on {w w' : World} {b : Nat} (h : Bare w b) (hb : Below w.heap.size w w') : Bare w' b := by
  have c : ∀ k, w'.cell? ⟨b, k, none⟩ = w.cell? ⟨b, k, none⟩ := fun k => hb.cell (p := ⟨b, k, none⟩) h.lt
  exact ⟨Nat.lt_of_lt_of_le h.lt hb.size, (c 8).trans h.fm, (c 9).trans h.fo, (c 16).trans h.nf, (c 5).trans h.am, (c 6).trans h.ao, fun k => (hb.frozen (p := ⟨b, k, none⟩) h.lt).trans (h.zb k)⟩
/-- A new flag. -/
structure Flg (w : World) (fb : Nat) (v : Value) : Prop where
  lt : fb < w.heap.size
  nm : w.cell? ⟨fb, 0, none⟩ = some (.string xN)
  sh : w.cell? ⟨fb, 1, none⟩ = some (.string ⟨#[]⟩)
  vl : w.cell? ⟨fb, 3, none⟩ = some v
  cg : w.cell? ⟨fb, 5, none⟩ = some (.bool false)
  zf : ∀ k, w.frozen? ⟨fb, k, none⟩ = false
theorem lk_nil (w : World) (k : ByteArray) : (Instr.lookup 176 (.map none) (.string k) true).run Tryz.prog w = .ok (.tuple #[.pointer none, .bool false]) w := by
  have hc : ∀ b w, (Instr.checkKey b 10000 187 (.string k)).run Tryz.prog w = .ok () w := fun b w => MapKept.run_checkKey (w := w) u187 (by simp [MapKept.IsKey]) b 9999
  simp [Instr.lookup, run_underlying u176, run_underlying u187, hc, Instr.findKey, Instr.findNow, z189, Result.andThen]
/-- What the laying of a flag does. -/
structure Added (b fb : Nat) (w w' : World) : Prop where
  fm : w'.cell? ⟨b, 8, none⟩ = some (.map (some w.heap.size))
  mp : w'.heap[w.heap.size]? = some (xMap fb)
  cb : ∀ k, k ≠ 8 → k ≠ 9 → w'.cell? ⟨b, k, none⟩ = w.cell? ⟨b, k, none⟩
  cf : ∀ k, k ≠ 0 → w'.cell? ⟨fb, k, none⟩ = w.cell? ⟨fb, k, none⟩
  zb : ∀ k, w'.frozen? ⟨b, k, none⟩ = w.frozen? ⟨b, k, none⟩
  zf : ∀ k, w'.frozen? ⟨fb, k, none⟩ = w.frozen? ⟨fb, k, none⟩
  fr : Frame3 b fb fb w w'
  sz : w.heap.size < w'.heap.size
set_option maxHeartbeats 1000000 in
theorem addf_run (w : World) (b fb : Nat) (v : Value) (hb : Bare w b) (hf : Flg w fb v) (hne : b ≠ fb) :
    Calls Tryz.prog 216 #[.pointer (some ⟨b, 0, none⟩), .pointer (some ⟨fb, 0, none⟩)] w fun e w' => e = .returned (.tuple #[]) ∧ Added b fb w w' := by
  obtain ⟨Q, hQ⟩ : ∃ Q : Ending → World → Prop, Q = fun e w' => e = .returned (.tuple #[]) ∧ Added b fb w w' := ⟨_, rfl⟩
  rw [← hQ]
  have HQ := Lib.hid hQ
  have HN := Lib.hid (fun n => norm_run w b hb.nf n)
  have HB := Lib.hid hb
  have HF := Lib.hid hf
  have HE := Lib.hid hne
  have h1 := hb.fm
  have h2 := hf.nm
  have h3 := fun w => lk_nil w xN
  have hmm := @run_makeMap Tryz.prog
  have hmn : ∀ w, (binOp .eql 176 (.map none) (.map none)).run Tryz.prog w = .ok (.bool true) w := fun w => by kernel_rfl
  have z8 := hb.zb 8
  have z9 := hb.zb 9
  have zf0 := hf.zf 0
  have hlb := hb.lt
  have hlf := hf.lt
  have hnb : b ≠ w.heap.size := Nat.ne_of_lt hlb
  have hnf : fb ≠ w.heap.size := Nat.ne_of_lt hlf
  clear hb hf hQ
  go_enter Tryz.func216, Tryz.ntmps216
  go_wp2_with (first | (go_at_call 131; refine (HN.out _).mono ?_; rintro r w1 ⟨rfl, rfl⟩))
  obtain ⟨m, hm0⟩ : ∃ m, m = w1.heap.size := ⟨_, rfl⟩
  rw [← hm0] at hnb hnf ⊢
  generalize hW : World.alloc _ _ = W
  obtain ⟨U, hUU⟩ : ∃ U, U = (w1.setCell ⟨b, 8, none⟩ (.map (some m))).setCell ⟨fb, 0, none⟩ (.string xN) := ⟨_, rfl⟩
  have hUs : U.heap.size = m := by rw [hUU, hm0]; simp [World.setCell]
  rw [← hUU] at hW
  have hWm : W.heap[m]? = some (mobj []) := by
    rw [← hW, ← hUs]
    exact heap_alloc_new _ _
  have hU := run_mapUpd u176 u187 W m [] xN (.pointer (some ⟨fb, 0, none⟩)) hWm
  have hWs : W.heap.size = m + 1 := by rw [← hW, ← hUs]; simp
  have hWc : ∀ a : Addr, a.block < m → a ≠ ⟨b, 8, none⟩ → a ≠ ⟨fb, 0, none⟩ → W.cell? a = w1.cell? a := fun a ha hne hne2 => by
    rw [← hW]
    rw [World.cell?_of_block (Below.heap_alloc _ _ a.block (by rw [hUs]; exact ha)), hUU]
    rw [World.cell?_setCell_other _ _ _ _ (fun e => hne2 e.symm)]
    exact World.cell?_setCell_other _ _ _ _ (fun e => hne e.symm)
  have hW8 : W.cell? ⟨b, 8, none⟩ = some (.map (some m)) := by
    rw [← hW]
    rw [World.cell?_of_block (Below.heap_alloc _ _ b (by rw [hUs, hm0]; exact hlb)), hUU]
    rw [World.cell?_setCell_other _ _ _ _ (fun e => by simp at e)]
    exact World.cell?_setCell_same _ _ _ (u := .map none) h1
  have hWz : ∀ a : Addr, a.block < m → W.frozen? a = w1.frozen? a := fun a ha => by
    rw [← hW]
    rw [World.frozen?_of_block (Below.heap_alloc _ _ a.block (by rw [hUs]; exact ha)), hUU]
    rw [World.frozen?_setCell, World.frozen?_setCell]
  have hWb : ∀ k, k < m → k ≠ b → k ≠ fb → W.heap[k]? = w1.heap[k]? := fun k hk hne hne2 => by
    rw [← hW, Below.heap_alloc _ _ k (by rw [hUs]; exact hk), hUU]
    rw [Below.heap_setCell _ _ _ _ hne2]
    exact Below.heap_setCell _ _ _ _ hne
  have hWo : W.os = w1.os ∧ W.tape = w1.tape ∧ W.output = w1.output := by rw [← hW, hUU]; exact ⟨rfl, rfl, rfl⟩
  obtain ⟨V, hV⟩ : ∃ V, V = setO W m (mobj (upd [] xN (.pointer (some ⟨fb, 0, none⟩)))) := ⟨_, rfl⟩
  rw [← hV] at hU
  have hVs : V.heap.size = m + 1 := by rw [hV, setO_size]; exact hWs
  have hVb : ∀ k, k < m → V.heap[k]? = W.heap[k]? := fun k hk => by rw [hV]; exact setO_other _ _ _ _ (by omega)
  have hVm : V.heap[m]? = some (xMap fb) := by rw [hV]; exact setO_heap _ _ _ (by omega)
  have hVo : V.os = w1.os ∧ V.tape = w1.tape ∧ V.output = w1.output := by rw [hV]; exact hWo
  have hVc : ∀ a : Addr, a.block < m → a ≠ ⟨b, 8, none⟩ → a ≠ ⟨fb, 0, none⟩ → V.cell? a = w1.cell? a := fun a ha hne hne2 => (World.cell?_of_block (hVb a.block ha)).trans (hWc a ha hne hne2)
  have hVz : ∀ a : Addr, a.block < m → V.frozen? a = w1.frozen? a := fun a ha => (World.frozen?_of_block (hVb a.block ha)).trans (hWz a ha)
  have hV8 : V.cell? ⟨b, 8, none⟩ = some (.map (some m)) := (World.cell?_of_block (hVb b (by omega))).trans hW8
  have hV9 : V.cell? ⟨b, 9, none⟩ = some (.slice none 0 0) := (hVc ⟨b, 9, none⟩ (by show b < m; omega) (by simp) (fun e => by simp at e)).trans HB.out.fo
  have hV1 : V.cell? ⟨fb, 1, none⟩ = some (.string ⟨#[]⟩) := (hVc ⟨fb, 1, none⟩ (by show fb < m; omega) (fun e => by simp at e) (fun e => by simp at e)).trans HF.out.sh
  have hzV9 : V.frozen? ⟨b, 9, none⟩ = false := (hVz ⟨b, 9, none⟩ (by show b < m; omega)).trans z9
  have HV := Lib.hid (And.intro hVs (And.intro hVb (And.intro hVo (And.intro hVc (And.intro hVz (And.intro hWb (And.intro hVm hV8)))))))
  obtain ⟨i0, z0, hi0, hz0, hs0, hbb0, hzs⟩ := info189
  have HL := Lib.hid (And.intro (show b < V.heap.size by omega) (And.intro (show fb < V.heap.size by omega) (And.intro hm0 (And.intro hlb hlf))))
  have HV6 := Lib.hid (And.intro hV1 hzV9)
  clear hVs hVb hVo hVc hVz hWb hV hWs hWc hWz hWo hWm hW hV1 hzV9 h1 h2 h3 hmm hmn z8 z9 zf0 hlb hlf hnb hnf hVm hV8 hW8 hUs hUU hne hm0
  rw [hU]
  go_wp2_with (at_builtin; refine wpList_append_lies _ rfl _ _ 177 rfl V.heap.size 189 i0 z0 1 8 u177 hi0 hz0 hs0 hbb0 hzs (by decide) (.slice none 0 0) 0 [] rfl ⟨rfl, Or.inl ⟨rfl, rfl⟩⟩ ⟨V.heap.size, 0, none⟩ 1 1 [.pointer (some ⟨fb, 0, none⟩)] rfl rfl (World.news_of_block (cs := #[.pointer (some ⟨fb, 0, none⟩)]) (t := 189) (fr := (0, 0)) (heap_alloc_new _ _)) (by simp [Value.oneCell']) (by decide) (by decide) (by decide) (by simp) _ rfl ?_; intro gg cap2 w4 ho4 hg4 ha4 hlt4; have hB4 : ∀ k, k < V.heap.size → w4.heap[k]? = V.heap[k]? := fun k hk => (hg4.block k (Nat.lt_of_lt_of_le hk (Nat.le_of_lt (by simp))) (by simp [Value.ownBlock])).trans (Below.heap_alloc _ _ k hk); have h94 : w4.cell? ⟨b, 9, none⟩ = some (.slice none 0 0) := (World.cell?_of_block (hB4 b HL.out.1)).trans hV9; have h14 : w4.cell? ⟨fb, 1, none⟩ = some (.string ⟨#[]⟩) := (World.cell?_of_block (hB4 fb HL.out.2.1)).trans HV6.out.1; have z94 : w4.frozen? ⟨b, 9, none⟩ = false := (World.frozen?_of_block (hB4 b HL.out.1)).trans HV6.out.2; have HB4 := Lib.hid hB4; have HG4 := Lib.hid hg4; clear hB4 hg4 ho4 ha4 hlt4)
  refine bodyPost_ret (results_none rfl _ _ _) rfl ?_
  rw [HQ.out]
  obtain ⟨hVs, hVb, hVo, hVc, hVz, hWb, hVm, hV8⟩ := HV.out
  obtain ⟨_, _, hm0, hlb, hlf⟩ := HL.out
  have hB4 := HB4.out
  have hg4 := HG4.out
  have hbf : b ≠ fb := HE.out
  have hsz : m + 1 ≤ w4.heap.size := by
    have := hg4.size
    simp at this
    omega
  have ne8 : (⟨b, 9, none⟩ : Addr) ≠ ⟨b, 8, none⟩ := by simp
  obtain ⟨X, hX⟩ : ∃ X, X = w4.setCell ⟨b, 9, none⟩ (.slice (some ⟨gg, 0, none⟩) 1 cap2) := ⟨_, rfl⟩
  have xs : X.heap.size = w4.heap.size := by rw [hX]; simp [World.setCell]
  have hXo : X.os = w1.os ∧ X.tape = w1.tape ∧ X.output = w1.output := by
    rw [hX]
    exact ⟨hg4.os.trans hVo.1, hg4.tape.trans hVo.2.1, hg4.output.trans hVo.2.2⟩
  have xc : ∀ a : Addr, a.block < m → a ≠ ⟨b, 9, none⟩ → X.cell? a = V.cell? a := fun a ha h1 => by
    rw [hX, World.cell?_setCell_other _ _ _ _ (fun e => h1 e.symm)]
    exact World.cell?_of_block (hB4 a.block (by omega))
  have xz : ∀ a : Addr, a.block < m → X.frozen? a = w1.frozen? a := fun a ha => by
    rw [hX, World.frozen?_setCell]
    exact (World.frozen?_of_block (hB4 a.block (by omega))).trans (hVz a ha)
  rw [← hX]
  refine ⟨rfl, ?_, ?_, fun k h8 h9 => ?_, fun k h0 => ?_, fun k => xz _ (by show b < m; omega), fun k => xz _ (by show fb < m; omega), ⟨hXo.1, hXo.2.1, hXo.2.2, by omega, fun k hk h1 h2 _ => ?_⟩, by omega⟩
  · rw [← hm0]
    exact (xc ⟨b, 8, none⟩ (by show b < m; omega) ne8.symm).trans hV8
  · rw [← hm0, hX, Below.heap_setCell _ _ _ _ (show m ≠ b by omega)]
    exact (hB4 m (by omega)).trans hVm
  · exact (xc ⟨b, k, none⟩ (by show b < m; omega) (by intro e; exact h9 (congrArg Addr.off e))).trans (hVc ⟨b, k, none⟩ (by show b < m; omega) (by intro e; exact h8 (congrArg Addr.off e)) (by intro e; exact hbf (congrArg Addr.block e)))
  · exact (xc ⟨fb, k, none⟩ (by show fb < m; omega) (by intro e; exact hbf (congrArg Addr.block e).symm)).trans (hVc ⟨fb, k, none⟩ (by show fb < m; omega) (by intro e; exact hbf (congrArg Addr.block e).symm) (by intro e; exact h0 (congrArg Addr.off e)))
  · rw [hX, Below.heap_setCell _ _ _ _ h1, hB4 k (by omega), hVb k (by omega)]
    exact hWb k (by omega) h1 h2
end Go.Proofs.YtnggkkdcddpjlaaGreatDoor
