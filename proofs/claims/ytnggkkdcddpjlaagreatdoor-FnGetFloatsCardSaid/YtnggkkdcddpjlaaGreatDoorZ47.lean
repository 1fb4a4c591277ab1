/- impl.GetFloat and impl.FloatValue: what they answer, row for row. -/
import Derived.Test.YtnggkkdcddpjlaaGreatDoorZ44
import Derived.Test.YtnggkkdcddpjlaaGreatDoorZ45
import Derived.Test.YtnggkkdcddpjlaaGreatDoorZ46
namespace Go.Proofs.YtnggkkdcddpjlaaGreatDoor
open Go.RowKit
set_option maxRecDepth 100000
set_option linter.unusedVariables false
set_option linter.unusedSimpArgs false
theorem u67 : Tryz.prog.underlying 67 = some (.slice 70) := by kernel_rfl
theorem info70q : (Tryz.prog.info? 70).map (fun i => (i.size, i.bytes, i.zero.map (·.cells.size))) = some (3, 32, some 3) := by kernel_rfl
theorem info70 : ∃ i0 z0, Tryz.prog.info? 70 = some i0 ∧ i0.zero = some z0 ∧ i0.size = 3 ∧ i0.bytes = 32 ∧ z0.cells.size = 3 := by
  have h := info70q
  cases hh : Tryz.prog.info? 70 with
  | none => rw [hh] at h; cases h
  | some i =>
    rw [hh] at h
    simp only [Option.map_some, Option.some.injEq, Prod.mk.injEq] at h
    obtain ⟨h1, h2, h3⟩ := h
    cases hz : i.zero with
    | none => rw [hz] at h3; cases h3
    | some z => rw [hz] at h3; exact ⟨i, z, rfl, hz, h1, h2, Option.some.inj h3⟩
/-- A slice of answers: whether there was an error, and the float. -/
def Said (w : World) (base : Nat) (v : Value) (n : Nat) (bd : Nat → Bool) (V : Nat → Nat → Prop) : Prop :=
  ∃ xs, w.ownsRow base 70 3 v n xs ∧ ∀ i, i < n → ∃ g t, xs[3 * i]? = some (.bool (bd i)) ∧ xs[3 * i + 1]? = some (.float .f64 g) ∧ xs[3 * i + 2]? = some (.string t) ∧ V i g
theorem Said.frame {w w' : World} {base n : Nat} {v : Value} {bd : Nat → Bool} {V : Nat → Nat → Prop} (h : Said w base v n bd V) (hf : ∀ k, base ≤ k → k < w.heap.size → w'.heap[k]? = w.heap[k]?) : Said w' base v n bd V := by
  obtain ⟨xs, ⟨h1, h2⟩, h3⟩ := h
  refine ⟨xs, ⟨h1, ?_⟩, h3⟩
  rcases h2 with h2 | ⟨g, cap, cur, e1, e2, e3, e4⟩
  · exact Or.inl h2
  · have hlt : g < w.heap.size := by
      rcases Nat.lt_or_ge g w.heap.size with h | h
      · exact h
      · rw [Array.getElem?_eq_none h] at e3; cases e3
    exact Or.inr ⟨g, cap, cur, e1, e2, (hf g e2 hlt).trans e3, e4⟩
theorem Said.mono {w : World} {base base' n : Nat} {v : Value} {bd : Nat → Bool} {V : Nat → Nat → Prop} (h : Said w base v n bd V) (hb : base' ≤ base) : Said w base' v n bd V := by
  obtain ⟨xs, ⟨h1, h2⟩, h3⟩ := h
  refine ⟨xs, ⟨h1, ?_⟩, h3⟩
  rcases h2 with h2 | ⟨g, cap, cur, e1, e2, e3, e4⟩
  · exact Or.inl h2
  · exact Or.inr ⟨g, cap, cur, e1, by omega, e3, e4⟩
theorem Said.nil (w : World) (base : Nat) (bd : Nat → Bool) (V : Nat → Nat → Prop) : Said w base (.slice none 0 0) 0 bd V :=
  ⟨[], ⟨rfl, Or.inl ⟨rfl, rfl⟩⟩, fun i hi => by omega⟩
/-- One answer more. -/
theorem Said.add {w : World} {base n : Nat} {v : Value} {bd : Nat → Bool} {V : Nat → Nat → Prop} {xs : List Value} {b : Bool} {g : Nat} {t : ByteArray} (h : w.ownsRow base 70 3 v (n + 1) (xs ++ [.bool b, .float .f64 g, .string t])) (hl : xs.length = n * 3)
    (hx : ∀ i, i < n → ∃ g t, xs[3 * i]? = some (.bool (bd i)) ∧ xs[3 * i + 1]? = some (.float .f64 g) ∧ xs[3 * i + 2]? = some (.string t) ∧ V i g) (hb : b = bd n) (hv : V n g) : Said w base v (n + 1) bd V := by
  refine ⟨_, h, fun i hi => ?_⟩
  rcases Nat.lt_or_ge i n with h1 | h1
  · obtain ⟨g', t', e1, e2, e3, e4⟩ := hx i h1
    exact ⟨g', t', by rw [List.getElem?_append_left (by omega)]; exact e1, by rw [List.getElem?_append_left (by omega)]; exact e2, by rw [List.getElem?_append_left (by omega)]; exact e3, e4⟩
  · have hi : i = n := by omega
    subst hi
    refine ⟨g, t, ?_, ?_, ?_, hv⟩
    · rw [List.getElem?_append_right (by omega), hl, show 3 * i - i * 3 = 0 by omega, ← hb]; rfl
    · rw [List.getElem?_append_right (by omega), hl, show 3 * i + 1 - i * 3 = 1 by omega]; rfl
    · rw [List.getElem?_append_right (by omega), hl, show 3 * i + 2 - i * 3 = 2 by omega]; rfl
theorem own_far {w : World} {base n : Nat} {v : Value} {xs : List Value} (h : w.ownsRow base 70 3 v n xs) (k : Nat) (hk : k < base) : some k ≠ v.ownBlock := by
  rcases h.2 with ⟨e1, _⟩ | ⟨g, cap, cur, e1, e2, _⟩
  · rw [e1]; simp [Value.ownBlock]
  · rw [e1]; simp [Value.ownBlock]; omega
theorem err_ne (bad : Bool) (er : Value) (h : ErrN bad er) : ∀ w, (binOp .neq 73 er .nilIface).run Tryz.prog w = .ok (.bool bad) w := fun w => by
  unfold ErrN at h
  cases bad with
  | true =>
    rw [if_pos rfl] at h
    obtain ⟨t, p, rfl⟩ := h
    kernel_rfl
  | false =>
    rw [if_neg (by decide)] at h
    subst h
    kernel_rfl
theorem err_guard (bad : Bool) (er : Value) (h : ErrN bad er) : ∀ (x : Tmp) w, (eqGuard BinOp.neq 73 (.tmp x) (.const .nilIface) er .nilIface).run Tryz.prog w = .ok () w := fun x w => by
  unfold ErrN at h
  cases bad with
  | true =>
    rw [if_pos rfl] at h
    obtain ⟨t, p, rfl⟩ := h
    kernel_rfl
  | false =>
    rw [if_neg (by decide)] at h
    subst h
    kernel_rfl
/-- What a world holds between two rounds: the flag set in block b, its variable in block fv. -/
structure Mid (w0 wr : World) (tp : TypeId) (b mb fb vb fv B1 : Nat) : Prop where
  lo : w0.heap.size ≤ b ∧ w0.heap.size ≤ mb ∧ w0.heap.size ≤ fb ∧ w0.heap.size ≤ vb ∧ w0.heap.size ≤ fv
  hi : b < B1 ∧ mb < B1 ∧ fb < B1 ∧ vb < B1 ∧ fv < B1
  ne : fv ≠ b ∧ fv ≠ fb ∧ fv ≠ vb
  bel : Below w0.heap.size w0 wr
  fl : ∃ ch, Flagged wr tp b mb fb vb ch
  vc : ∃ v0, wr.cell? ⟨vb, 0, none⟩ = some v0
  fc : wr.cell? ⟨fv, 0, none⟩ = some (.pointer (some ⟨b, 0, none⟩))
  sz : B1 ≤ wr.heap.size
theorem Flagged.onB {w w' : World} {tp : TypeId} {b mb fb vb B1 : Nat} {ch : Bool} (h : Flagged w tp b mb fb vb ch) (hi : b < B1 ∧ mb < B1 ∧ fb < B1 ∧ vb < B1) (hb : Below B1 w w') : Flagged w' tp b mb fb vb ch := by
  obtain ⟨⟨l1, l2, l3, l4⟩, ⟨n1, n2, n3, n4, n5, n6⟩, h1, h2, h3, h4, h5, h6, h7, h8, h9⟩ := h
  obtain ⟨i1, i2, i3, i4⟩ := hi
  have cb : ∀ k, w'.cell? ⟨b, k, none⟩ = w.cell? ⟨b, k, none⟩ := fun k => hb.cell (p := ⟨b, k, none⟩) i1
  have cf : ∀ k, w'.cell? ⟨fb, k, none⟩ = w.cell? ⟨fb, k, none⟩ := fun k => hb.cell (p := ⟨fb, k, none⟩) i3
  have zb : ∀ k, w'.frozen? ⟨b, k, none⟩ = w.frozen? ⟨b, k, none⟩ := fun k => hb.frozen (p := ⟨b, k, none⟩) i1
  have zf : ∀ k, w'.frozen? ⟨fb, k, none⟩ = w.frozen? ⟨fb, k, none⟩ := fun k => hb.frozen (p := ⟨fb, k, none⟩) i3
  have hs := hb.size
  exact ⟨⟨by omega, by omega, by omega, by omega⟩, ⟨n1, n2, n3, n4, n5, n6⟩, (cb 8).trans h1, (cb 16).trans h2, (hb.block mb i2).trans h3, (cf 3).trans h4, (cf 5).trans h5, fun k => (zb k).trans (h6 k), fun k => (zf k).trans (h7 k), (hb.frozen (p := ⟨vb, 0, none⟩) i4).trans h8, fun hc => ⟨(cb 5).trans (h9 hc).1, (cb 6).trans (h9 hc).2⟩⟩
theorem Mid.onB {w0 wr w' : World} {tp : TypeId} {b mb fb vb fv B1 : Nat} (h : Mid w0 wr tp b mb fb vb fv B1) (hb : Below B1 wr w') : Mid w0 w' tp b mb fb vb fv B1 := by
  obtain ⟨lo, hi, ne, bel, ⟨ch, fl⟩, ⟨v0, vc⟩, fc, sz⟩ := h
  exact ⟨lo, hi, ne, bel.trans (hb.mono (by omega)), ⟨ch, fl.onB ⟨hi.1, hi.2.1, hi.2.2.1, hi.2.2.2.1⟩ hb⟩, ⟨v0, (hb.cell (p := ⟨vb, 0, none⟩) hi.2.2.2.1).trans vc⟩, (hb.cell (p := ⟨fv, 0, none⟩) hi.2.2.2.2).trans fc, Nat.le_trans sz hb.size⟩
theorem Mid.set {w0 wr w' : World} {tp : TypeId} {b mb fb vb fv B1 : Nat} {ch' : Bool} {v' : Value} (h : Mid w0 wr tp b mb fb vb fv B1) (hf : Flagged w' tp b mb fb vb ch') (hv : w'.cell? ⟨vb, 0, none⟩ = some v') (hr : Frame3 b fb vb wr w') : Mid w0 w' tp b mb fb vb fv B1 := by
  obtain ⟨lo, hi, ne, bel, ⟨ch, fl⟩, ⟨v0, vc⟩, fc, sz⟩ := h
  have hs := hr.size
  have h0 := bel.size
  refine ⟨lo, hi, ne, ⟨hr.os.trans bel.os, hr.tape.trans bel.tape, hr.output.trans bel.output, by omega, fun k hk => ?_⟩, ⟨ch', hf⟩, ⟨v', hv⟩, ?_, by omega⟩
  · exact (hr.block k (by omega) (by omega) (by omega) (by omega)).trans (bel.block k hk)
  · exact (World.cell?_of_block (a := ⟨fv, 0, none⟩) (hr.block fv (by omega) ne.1 ne.2.1 ne.2.2)).trans fc
theorem Said.set {wr w' : World} {n b fb vb B1 : Nat} {v : Value} {bd : Nat → Bool} {V : Nat → Nat → Prop} (h : Said wr B1 v n bd V) (hi : b < B1 ∧ fb < B1 ∧ vb < B1) (hr : Frame3 b fb vb wr w') : Said w' B1 v n bd V :=
  h.frame fun k h1 h2 => hr.block k h2 (by omega) (by omega) (by omega)
theorem below_grown {B1 n : Nat} {w w' : World} {v : Value} {xs : List Value} {w1 : World} (h : w1.ownsRow B1 70 3 v n xs) (hs : B1 ≤ w.heap.size) (hg : w.grownBy w' v.ownBlock) : Below B1 w w' :=
  ⟨hg.os, hg.tape, hg.output, hg.size, fun k hk => hg.block k (by omega) (own_far h k hk)⟩
theorem lay_bel (w : World) (cd : Nat) (v : Value) : Below w.heap.size w (((w.alloc (.cells fsNew 181)).alloc (.cells #[v] 106)).drewN cd) := below_dn ((below_alloc _ _).trans ((below_alloc _ _).mono (by simp))) cd
theorem lay_bare (w : World) (cd : Nat) (v : Value) : Bare (((w.alloc (.cells fsNew 181)).alloc (.cells #[v] 106)).drewN cd) w.heap.size := (bare_new w).on (below_dn (below_alloc _ _) cd)
theorem lay_cell (w : World) (cd : Nat) (v : Value) : (((w.alloc (.cells fsNew 181)).alloc (.cells #[v] 106)).drewN cd).cell? ⟨w.heap.size + 1, 0, none⟩ = some v := by
  exact (World.cell?_alloc_at (w := w.alloc (.cells fsNew 181)) #[v] 106 (w.heap.size + 1) 0 (by simp)).trans rfl
theorem lay_mid {w w' : World} {cd : Nat} {tp : TypeId} {mb fb : Nat} {y : Value} (hf : Flagged w' tp w.heap.size mb fb (((w.alloc (.cells fsNew 181)).alloc (.cells #[.pointer (some ⟨w.heap.size, 0, none⟩)] 106)).drewN cd).heap.size false)
    (hc : w'.cell? ⟨(((w.alloc (.cells fsNew 181)).alloc (.cells #[.pointer (some ⟨w.heap.size, 0, none⟩)] 106)).drewN cd).heap.size, 0, none⟩ = some y)
    (hm : (((w.alloc (.cells fsNew 181)).alloc (.cells #[.pointer (some ⟨w.heap.size, 0, none⟩)] 106)).drewN cd).heap.size ≤ mb ∧ (((w.alloc (.cells fsNew 181)).alloc (.cells #[.pointer (some ⟨w.heap.size, 0, none⟩)] 106)).drewN cd).heap.size ≤ fb) (hr : Frame3 w.heap.size w.heap.size w.heap.size (((w.alloc (.cells fsNew 181)).alloc (.cells #[.pointer (some ⟨w.heap.size, 0, none⟩)] 106)).drewN cd) w') :
    Mid w w' tp w.heap.size mb fb (w.heap.size + 2) (w.heap.size + 1) w'.heap.size := by
  have hs : (((w.alloc (.cells fsNew 181)).alloc (.cells #[.pointer (some ⟨w.heap.size, 0, none⟩)] 106)).drewN cd).heap.size = w.heap.size + 2 := by simp
  have hb := lay_bel w cd (.pointer (some ⟨w.heap.size, 0, none⟩))
  have hcl := lay_cell w cd (.pointer (some ⟨w.heap.size, 0, none⟩))
  generalize (((w.alloc (.cells fsNew 181)).alloc (.cells #[.pointer (some ⟨w.heap.size, 0, none⟩)] 106)).drewN cd) = W at hf hc hm hr hs hb hcl
  rw [hs] at hf hc hm
  obtain ⟨l1, l2, l3, l4⟩ := hf.lt
  have hsz := hr.size
  refine ⟨⟨by omega, by omega, by omega, by omega, by omega⟩, ⟨by omega, by omega, by omega, by omega, by omega⟩, ⟨by omega, by omega, by omega⟩, ⟨hr.os.trans hb.os, hr.tape.trans hb.tape, hr.output.trans hb.output, by omega, fun k hk => ?_⟩, ⟨false, hf⟩, ⟨y, hc⟩, ?_, Nat.le_refl _⟩
  · exact (hr.block k (by omega) (by omega) (by omega) (by omega)).trans (hb.block k hk)
  · exact (World.cell?_of_block (a := ⟨w.heap.size + 1, 0, none⟩) (hr.block (w.heap.size + 1) (by omega) (by omega) (by omega) (by omega))).trans hcl
set_option maxHeartbeats 2000000 in
theorem getfl32 (w : World) (hg : Good w) (hw : PW32 w) (pv : Option Addr) (n c : Nat) (ss : Nat → ByteArray) (hT : Texts w pv n ss) (hn : n ≤ 2147483647) (od : Nat → Option Nat) (bd : Nat → Bool)
    (hP : ∀ i, i < n → Ok32 (od i) ∧ ∀ w, Good w → PW32 w → Calls Tryz.prog 133 #[.string (ss i), .int .i64 32] w (Num32Post w (od i) (bd i))) (d : Nat) (o : Option Nat) (ho : Ok32 o) (hd : G32 o d) :
    Calls Tryz.prog 36 #[.int .i64 32, .float .f64 d, .slice pv n c] w fun e w' => ∃ out, e = .returned out ∧ Said w' w.heap.size out n bd (fun i g => G32 (od i) g) ∧ Below w.heap.size w w' := by
  obtain ⟨Q, hQ⟩ : ∃ Q : Ending → World → Prop, Q = fun e w' => ∃ out, e = .returned out ∧ Said w' w.heap.size out n bd (fun i g => G32 (od i) g) ∧ Below w.heap.size w w' := ⟨_, rfl⟩
  rw [← hQ]
  have HQ := Lib.hid hQ
  have HG := Lib.hid (And.intro hg hw)
  have HT := Lib.hid hT
  have HP := Lib.hid hP
  obtain ⟨cv, cd, hcv, hcw⟩ := conv_to32 o d hd
  obtain ⟨t, ht⟩ := show32 o ho
  have HS := Lib.hid (And.intro ho ht)
  have HCW := Lib.hid hcw
  clear hQ hg hw hT hP hcw ht ho hd
  go_enter Tryz.func36, Tryz.ntmps36
  go_wp2_with (first | (go_at_call 65; refine (newfs_run _).mono ?_; rintro r w1 ⟨rfl, rfl⟩) | (go_at_call 66; refine (flag32 o HS.out.1 t HS.out.2 _ (HCW.out _) _ (HG.out.2.pow.keep (lay_bel w cd (.pointer (some ⟨w.heap.size, 0, none⟩))) (by have := HG.out.1.big; omega)) (HG.out.1.on (lay_bel w cd (.pointer (some ⟨w.heap.size, 0, none⟩)))) w.heap.size (lay_bare w cd (.pointer (some ⟨w.heap.size, 0, none⟩))) _).mono ?_; rintro r w5 ⟨mb, fb, hmf, rfl, hF, hc, hr⟩; have HM := Lib.hid (lay_mid hF hc hmf hr); clear hmf hF hc hr))
  go_loopg [9, 32] n (fun g out i wr => ∃ (k : Nat) (OUT : Value), k + g = n ∧ OUT = out ∧ i = .int .i64 k ∧ Hid (Mid w wr 118 w.heap.size mb fb (w.heap.size + 2) (w.heap.size + 1) w5.heap.size ∧ Said wr w5.heap.size OUT k bd (fun i g => G32 (od i) g)))
  case atStart => exact ⟨0, _, by omega, rfl, rfl, Lib.hid ⟨HM.out, Said.nil _ _ _ _⟩⟩
  case round =>
    obtain ⟨k, OUT, h1, rfl, rfl, HK⟩ := hrel
    by_cases hk : (k : Int) < (n : Int)
    · have hkn : k < n := by omega
      obtain ⟨a, rfl, hc⟩ := (HT.out.on HK.out.1.bel).2 k hkn
      have hfc := HK.out.1.fc
      obtain ⟨i0, z0, hi0, hz0, hs0, hbb0, hzs⟩ := info70
      obtain ⟨tk, htk⟩ := show32 (od k) (HP.out k hkn).1
      have HTK := Lib.hid htk
      clear htk
      go_wp2_with (first
        | (go_at_call 72; obtain ⟨ch, hfl⟩ := HK.out.1.fl; obtain ⟨v0, hv0⟩ := HK.out.1.vc; refine (fset32 (ss k) (od k) (bd k) (HP.out k hkn).2 wr (HG.out.1.on HK.out.1.bel) (HG.out.2.on HK.out.1.bel) w.heap.size mb fb (w.heap.size + 2) ch hfl v0 hv0).mono ?_; rintro r w2 ⟨er, y, ch', hy, rfl, hE, hF2, hc2, hr2⟩; have hne := err_ne _ _ hE; have hneg := err_guard _ _ hE; have HM2 := Lib.hid (HK.out.1.set hF2 hc2 hr2); have HS2 := Lib.hid (HK.out.2.set ⟨HK.out.1.hi.1, HK.out.1.hi.2.2.1, HK.out.1.hi.2.2.2.1⟩ hr2); have HY := Lib.hid (And.intro hy (And.intro hF2 hc2)); clear hE hF2 hc2 hr2 hy hfl hv0 hfc)
        | (go_at_call 67; refine (clo32 (od k) (HP.out k hkn).1 tk HTK.out y HY.out.1 w2 (HG.out.1.on HM2.out.bel) (HG.out.2.on HM2.out.bel) w.heap.size mb fb (w.heap.size + 2) ch' HY.out.2.1 HY.out.2.2 (w.heap.size + 1) HM2.out.fc).mono ?_; rintro r w3 ⟨g, hg3, rfl, hb3⟩; have HM3 := Lib.hid (HM2.out.onB (hb3.mono HM2.out.sz)); have HS3 := Lib.hid (HS2.out.frame fun k _ h => hb3.block k h); have HG3 := Lib.hid hg3; clear hg3 hb3)
        | (at_builtin; obtain ⟨xs, hown, hx⟩ := HS3.out.frame (w' := w3.alloc (.cells #[.bool (bd k), .float .f64 g, .string ⟨#[]⟩] 70)) (fun j _ h => Below.heap_alloc _ _ j h); refine wpList_append_lies _ rfl _ _ 67 rfl w5.heap.size 70 i0 z0 3 32 u67 hi0 hz0 hs0 hbb0 hzs (by decide) OUT k xs rfl hown ⟨w3.heap.size, 0, none⟩ 1 1 [.bool (bd k), .float .f64 g, .string ⟨#[]⟩] rfl rfl (World.news_of_block (cs := #[.bool (bd k), .float .f64 g, .string ⟨#[]⟩]) (t := 70) (fr := (0, 0)) (heap_alloc_new _ _)) (by simp [Value.oneCell']) (by decide) (by unfold maxLen; omega) (by omega) (by have := HM3.out.sz; simp; omega) _ rfl ?_; intro gg cap2 w4 ho4 hg4 ha4 hlt4; have HO4 := Lib.hid (And.intro ho4 (And.intro hg4 (And.intro hown hx))); clear ho4 hg4 hown hx ha4 hlt4))
      go_roundg (gk - 1)
      case measure => omega
      case rel =>
        obtain ⟨ho4, hg4, hown, hx⟩ := HO4.out
        have hs3 : w5.heap.size ≤ (w3.alloc (.cells #[.bool (bd k), .float .f64 g, .string ⟨#[]⟩] 70)).heap.size := by
          have := HM3.out.sz
          simp
          omega
        have hB := below_grown hown hs3 hg4
        exact ⟨k + 1, _, by omega, rfl, by simp, Lib.hid ⟨(HM3.out.onB ((below_alloc _ _).mono HM3.out.sz)).onB hB, Said.add ho4 hown.1 hx rfl HG3.out⟩⟩
    · go_wp2_with fail
      all_goals (try go_ret)
      rw [HQ.out]
      have hkn : k = n := by omega
      subst hkn
      exact ⟨_, rfl, HK.out.2.mono HM.out.bel.size, HK.out.1.bel⟩
set_option maxHeartbeats 2000000 in
theorem getfl64 (w : World) (hg : Good w) (hw : PW w) (pv : Option Addr) (n c : Nat) (ss : Nat → ByteArray) (hT : Texts w pv n ss) (hn : n ≤ 2147483647) (ff : Nat → Nat) (bd : Nat → Bool)
    (hP : ∀ i, i < n → ff i < 18446744073709551616 ∧ ∀ w, Good w → PW w → Calls Tryz.prog 133 #[.string (ss i), .int .i64 64] w (NumPost w (.float .f64 (ff i)) (bd i))) (d : Nat) (hd : d < 18446744073709551616) :
    Calls Tryz.prog 36 #[.int .i64 64, .float .f64 d, .slice pv n c] w fun e w' => ∃ out, e = .returned out ∧ Said w' w.heap.size out n bd (fun i g => g = ff i ∨ (¬ Num64 (ff i) ∧ ¬ Num64 g)) ∧ Below w.heap.size w w' := by
  obtain ⟨Q, hQ⟩ : ∃ Q : Ending → World → Prop, Q = fun e w' => ∃ out, e = .returned out ∧ Said w' w.heap.size out n bd (fun i g => g = ff i ∨ (¬ Num64 (ff i) ∧ ¬ Num64 g)) ∧ Below w.heap.size w w' := ⟨_, rfl⟩
  rw [← hQ]
  have HQ := Lib.hid hQ
  have HG := Lib.hid (And.intro hg hw)
  have HT := Lib.hid hT
  have HP := Lib.hid hP
  obtain ⟨t, d', ht⟩ := show64 d hd
  have HS := Lib.hid ht
  clear hQ hg hw hT hP ht hd
  go_enter Tryz.func36, Tryz.ntmps36
  go_wp2_with (first | (go_at_call 65; refine (newfs_run _).mono ?_; rintro r w1 ⟨rfl, rfl⟩) | (go_at_call 69; refine (flag64 d d' t HS.out _ (HG.out.2.pow.keep (lay_bel w 0 (.pointer (some ⟨w.heap.size, 0, none⟩))) (by have := HG.out.1.big; omega)) (HG.out.1.on (lay_bel w 0 (.pointer (some ⟨w.heap.size, 0, none⟩)))) w.heap.size (lay_bare w 0 (.pointer (some ⟨w.heap.size, 0, none⟩))) _).mono ?_; rintro r w5 ⟨mb, fb, hmf, rfl, hF, hc, hr⟩; have HM := Lib.hid (lay_mid (cd := 0) hF hc hmf hr); clear hmf hF hc hr))
  go_loopg [9, 32] n (fun g out i wr => ∃ (k : Nat) (OUT : Value), k + g = n ∧ OUT = out ∧ i = .int .i64 k ∧ Hid (Mid w wr 122 w.heap.size mb fb (w.heap.size + 2) (w.heap.size + 1) w5.heap.size ∧ Said wr w5.heap.size OUT k bd (fun i g => g = ff i ∨ (¬ Num64 (ff i) ∧ ¬ Num64 g))))
  case atStart => exact ⟨0, _, by omega, rfl, rfl, Lib.hid ⟨HM.out, Said.nil _ _ _ _⟩⟩
  case round =>
    obtain ⟨k, OUT, h1, rfl, rfl, HK⟩ := hrel
    by_cases hk : (k : Int) < (n : Int)
    · have hkn : k < n := by omega
      obtain ⟨a, rfl, hc⟩ := (HT.out.on HK.out.1.bel).2 k hkn
      have hfc := HK.out.1.fc
      obtain ⟨i0, z0, hi0, hz0, hs0, hbb0, hzs⟩ := info70
      obtain ⟨tk, fk, htk⟩ := show64 (ff k) (HP.out k hkn).1
      have HTK := Lib.hid htk
      clear htk
      go_wp2_with (first
        | (go_at_call 72; obtain ⟨ch, hfl⟩ := HK.out.1.fl; obtain ⟨v0, hv0⟩ := HK.out.1.vc; refine (fset64 (ss k) (ff k) (bd k) (HP.out k hkn).2 wr (HG.out.1.on HK.out.1.bel) (HG.out.2.on HK.out.1.bel) w.heap.size mb fb (w.heap.size + 2) ch hfl v0 hv0).mono ?_; rintro r w2 ⟨er, ch', rfl, hE, hF2, hc2, hr2⟩; have hne := err_ne _ _ hE; have hneg := err_guard _ _ hE; have HM2 := Lib.hid (HK.out.1.set hF2 hc2 hr2); have HS2 := Lib.hid (HK.out.2.set ⟨HK.out.1.hi.1, HK.out.1.hi.2.2.1, HK.out.1.hi.2.2.2.1⟩ hr2); have HY := Lib.hid (And.intro hF2 hc2); clear hE hF2 hc2 hr2 hfl hv0 hfc)
        | (go_at_call 70; refine (clo64 (ff k) fk tk HTK.out w2 (HG.out.1.on HM2.out.bel) (HG.out.2.on HM2.out.bel) w.heap.size mb fb (w.heap.size + 2) ch' HY.out.1 HY.out.2 (w.heap.size + 1) HM2.out.fc).mono ?_; rintro r w3 ⟨rfl, hb3⟩; have HM3 := Lib.hid (HM2.out.onB (hb3.mono HM2.out.sz)); have HS3 := Lib.hid (HS2.out.frame fun k _ h => hb3.block k h); clear hb3)
        | (at_builtin; obtain ⟨xs, hown, hx⟩ := HS3.out.frame (w' := w3.alloc (.cells #[.bool (bd k), .float .f64 fk, .string ⟨#[]⟩] 70)) (fun j _ h => Below.heap_alloc _ _ j h); refine wpList_append_lies _ rfl _ _ 67 rfl w5.heap.size 70 i0 z0 3 32 u67 hi0 hz0 hs0 hbb0 hzs (by decide) OUT k xs rfl hown ⟨w3.heap.size, 0, none⟩ 1 1 [.bool (bd k), .float .f64 fk, .string ⟨#[]⟩] rfl rfl (World.news_of_block (cs := #[.bool (bd k), .float .f64 fk, .string ⟨#[]⟩]) (t := 70) (fr := (0, 0)) (heap_alloc_new _ _)) (by simp [Value.oneCell']) (by decide) (by unfold maxLen; omega) (by omega) (by have := HM3.out.sz; simp; omega) _ rfl ?_; intro gg cap2 w4 ho4 hg4 ha4 hlt4; have HO4 := Lib.hid (And.intro ho4 (And.intro hg4 (And.intro hown hx))); clear ho4 hg4 hown hx ha4 hlt4))
      go_roundg (gk - 1)
      case measure => omega
      case rel =>
        obtain ⟨ho4, hg4, hown, hx⟩ := HO4.out
        have hs3 : w5.heap.size ≤ (w3.alloc (.cells #[.bool (bd k), .float .f64 fk, .string ⟨#[]⟩] 70)).heap.size := by
          have := HM3.out.sz
          simp
          omega
        have hB := below_grown hown hs3 hg4
        exact ⟨k + 1, _, by omega, rfl, by simp, Lib.hid ⟨(HM3.out.onB ((below_alloc _ _).mono HM3.out.sz)).onB hB, Said.add ho4 hown.1 hx rfl HTK.out.same⟩⟩
    · go_wp2_with fail
      all_goals (try go_ret)
      rw [HQ.out]
      have hkn : k = n := by omega
      subst hkn
      exact ⟨_, rfl, HK.out.2.mono HM.out.bel.size, HK.out.1.bel⟩
end Go.Proofs.YtnggkkdcddpjlaaGreatDoor
