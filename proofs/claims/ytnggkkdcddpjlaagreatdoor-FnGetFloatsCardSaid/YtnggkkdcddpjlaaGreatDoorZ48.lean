/- impl.FloatValue: what it answers, row for row. FnGetFloats: plain facts of same29's test. -/
import Derived.Test.YtnggkkdcddpjlaaGreatDoorZ47
import Derived.Deep.RegionHeldLaw
namespace Go.Proofs.YtnggkkdcddpjlaaGreatDoor
open Go.RowKit
set_option maxRecDepth 100000
set_option linter.unusedVariables false
set_option linter.unusedSimpArgs false
theorem newi32 (y : Nat) (w : World) (vb : Nat) (v0 : Value) (hc : w.cell? ⟨vb, 0, none⟩ = some v0) (hz : w.frozen? ⟨vb, 0, none⟩ = false) :
    Calls Tryz.prog 73 #[.float .f32 y, .pointer (some ⟨vb, 0, none⟩)] w fun e w' => e = .returned (.pointer (some ⟨vb, 0, none⟩)) ∧ w' = w.setCell ⟨vb, 0, none⟩ (.float .f32 y) := by
  go_enter Tryz.func73, Tryz.ntmps73
  go_wp2
  go_ret
  exact ⟨rfl, rfl⟩
theorem newi64 (y : Nat) (w : World) (vb : Nat) (v0 : Value) (hc : w.cell? ⟨vb, 0, none⟩ = some v0) (hz : w.frozen? ⟨vb, 0, none⟩ = false) :
    Calls Tryz.prog 76 #[.float .f64 y, .pointer (some ⟨vb, 0, none⟩)] w fun e w' => e = .returned (.pointer (some ⟨vb, 0, none⟩)) ∧ w' = w.setCell ⟨vb, 0, none⟩ (.float .f64 y) := by
  go_enter Tryz.func76, Tryz.ntmps76
  go_wp2
  go_ret
  exact ⟨rfl, rfl⟩
/-- What a world holds between two rounds: the value's variable in block vb. -/
structure MidV (w0 wr : World) (vb B1 : Nat) : Prop where
  lo : w0.heap.size ≤ vb
  hi : vb < B1
  bel : Below w0.heap.size w0 wr
  vc : ∃ v0, wr.cell? ⟨vb, 0, none⟩ = some v0
  zv : wr.frozen? ⟨vb, 0, none⟩ = false
  sz : B1 ≤ wr.heap.size
theorem MidV.onB {w0 wr w' : World} {vb B1 : Nat} (h : MidV w0 wr vb B1) (hb : Below B1 wr w') : MidV w0 w' vb B1 := by
  obtain ⟨lo, hi, bel, ⟨v0, vc⟩, zv, sz⟩ := h
  exact ⟨lo, hi, bel.trans (hb.mono (by omega)), ⟨v0, (hb.cell (p := ⟨vb, 0, none⟩) hi).trans vc⟩, (hb.frozen (p := ⟨vb, 0, none⟩) hi).trans zv, Nat.le_trans sz hb.size⟩
theorem MidV.set {w0 wr w' : World} {vb B1 : Nat} {v' : Value} (h : MidV w0 wr vb B1) (hg : wr.grownBy w' (some vb)) (hv : w'.cell? ⟨vb, 0, none⟩ = some v') (hz : w'.frozen? ⟨vb, 0, none⟩ = false) : MidV w0 w' vb B1 := by
  obtain ⟨lo, hi, bel, ⟨v0, vc⟩, zv, sz⟩ := h
  have hs := hg.size
  have h0 := bel.size
  exact ⟨lo, hi, ⟨hg.os.trans bel.os, hg.tape.trans bel.tape, hg.output.trans bel.output, by omega, fun k hk => (hg.block k (by omega) (fun e => by have := Option.some.inj e; omega)).trans (bel.block k hk)⟩, ⟨v', hv⟩, hz, by omega⟩
theorem layv (w : World) (cd : Nat) (v u : Value) (t : TypeId) : MidV w (((w.alloc (.cells #[v] t)).drewN cd).setCell ⟨w.heap.size, 0, none⟩ u) w.heap.size (w.heap.size + 1) := by
  have hc : ((w.alloc (.cells #[v] t)).drewN cd).cell? ⟨w.heap.size, 0, none⟩ = some v := (World.cell?_alloc_at #[v] t w.heap.size 0 rfl).trans rfl
  refine ⟨Nat.le_refl _, by omega, (below_dn (below_alloc _ _) cd).setCell (p := ⟨w.heap.size, 0, none⟩) (Nat.le_refl _) _, ⟨_, World.cell?_setCell_same _ _ _ hc⟩, ?_, by simp [World.setCell]⟩
  rw [World.frozen?_setCell]
  exact World.frozen?_alloc_at #[v] t w.heap.size 0 rfl
theorem layv0 (w : World) (v : Value) (t : TypeId) : MidV w (w.alloc (.cells #[v] t)) w.heap.size (w.heap.size + 1) :=
  ⟨Nat.le_refl _, by omega, below_alloc _ _, ⟨v, (World.cell?_alloc_at #[v] t w.heap.size 0 rfl).trans rfl⟩, World.frozen?_alloc_at #[v] t w.heap.size 0 rfl, by simp⟩
theorem own_on {w w' : World} {base n : Nat} {v : Value} {xs : List Value} (h : w.ownsRow base 70 3 v n xs) (hb : Below w.heap.size w w') : w'.ownsRow base 70 3 v n xs := by
  obtain ⟨h1, h2⟩ := h
  refine ⟨h1, ?_⟩
  rcases h2 with h2 | ⟨g, cap, cur, e1, e2, e3, e4⟩
  · exact Or.inl h2
  · have hlt : g < w.heap.size := by
      rcases Nat.lt_or_ge g w.heap.size with h | h
      · exact h
      · rw [Array.getElem?_eq_none h] at e3; cases e3
    exact Or.inr ⟨g, cap, cur, e1, e2, (hb.block g hlt).trans e3, e4⟩
theorem errN_of {bad : Bool} {er : Value} (h : ErrIs bad er) : ErrN bad er := by
  cases bad with
  | true =>
    obtain ⟨N, rfl⟩ : ∃ N, er = .iface 258 (.pointer (some ⟨N, 0, none⟩)) := h
    exact ⟨_, _, rfl⟩
  | false => exact h
theorem alka {B : Nat} {w2 w3 : World} (h : Below B w2 w3) (hs : B ≤ w3.heap.size) (o : Obj) : Below B w2 (w3.alloc o) := h.trans ((below_alloc _ _).mono hs)
theorem alkd {B : Nat} {w2 w3 : World} (h : Below B w2 w3) (hs : B ≤ w3.heap.size) (j : Nat) (o : Obj) : Below B w2 ((w3.drewN j).alloc o) := (below_dn h j).trans ((below_alloc _ _).mono hs)
set_option maxHeartbeats 2000000 in
theorem flval32 (w : World) (hg : Good w) (hw : PW32 w) (pv : Option Addr) (n c : Nat) (ss : Nat → ByteArray) (hT : Texts w pv n ss) (hn : n ≤ 2147483647) (od : Nat → Option Nat) (bd : Nat → Bool)
    (hP : ∀ i, i < n → Ok32 (od i) ∧ ∀ w, Good w → PW32 w → Calls Tryz.prog 133 #[.string (ss i), .int .i64 32] w (Num32Post w (od i) (bd i))) (d : Nat) (o : Option Nat) (hd : G32 o d) :
    Calls Tryz.prog 37 #[.int .i64 32, .float .f64 d, .slice pv n c] w fun e w' => ∃ out, e = .returned out ∧ Said w' w.heap.size out n bd (fun i g => G32 (od i) g) ∧ Below w.heap.size w w' := by
  obtain ⟨Q, hQ⟩ : ∃ Q : Ending → World → Prop, Q = fun e w' => ∃ out, e = .returned out ∧ Said w' w.heap.size out n bd (fun i g => G32 (od i) g) ∧ Below w.heap.size w w' := ⟨_, rfl⟩
  rw [← hQ]
  have HQ := Lib.hid hQ
  have HG := Lib.hid (And.intro hg hw)
  have HT := Lib.hid hT
  have HP := Lib.hid hP
  obtain ⟨cv, cd, hcv, hcw⟩ := conv_to32 o d hd
  have hlc : ((w.alloc (.cells #[.float .f32 0] 66)).drewN cd).cell? ⟨w.heap.size, 0, none⟩ = some (.float .f32 0) := (World.cell?_alloc_at #[.float .f32 0] 66 w.heap.size 0 rfl).trans rfl
  have hlz : ((w.alloc (.cells #[.float .f32 0] 66)).drewN cd).frozen? ⟨w.heap.size, 0, none⟩ = false := World.frozen?_alloc_at #[.float .f32 0] 66 w.heap.size 0 rfl
  have HL := Lib.hid (And.intro hlc hlz)
  clear hQ hg hw hT hP hcw hd hlc hlz
  go_enter Tryz.func37, Tryz.ntmps37
  go_wp2_with (first | (go_at_call 73; refine (newi32 _ _ w.heap.size _ HL.out.1 HL.out.2).mono ?_; rintro r w1 ⟨rfl, rfl⟩))
  have HM := Lib.hid (layv w cd (.float .f32 0) (.float .f32 (cv (w.alloc (.cells #[.float .f32 0] 66)))) 66)
  go_loopg [7, 28] n (fun g out i wr => ∃ (k : Nat) (OUT : Value), k + g = n ∧ OUT = out ∧ i = .int .i64 k ∧ Hid (MidV w wr w.heap.size (w.heap.size + 1) ∧ Said wr (w.heap.size + 1) OUT k bd (fun i g => G32 (od i) g)))
  case atStart => exact ⟨0, _, by omega, rfl, rfl, Lib.hid ⟨HM.out, Said.nil _ _ _ _⟩⟩
  case round =>
    obtain ⟨k, OUT, h1, rfl, rfl, HK⟩ := hrel
    by_cases hk : (k : Int) < (n : Int)
    · have hkn : k < n := by omega
      obtain ⟨a, rfl, hc⟩ := (HT.out.on HK.out.1.bel).2 k hkn
      obtain ⟨i0, z0, hi0, hz0, hs0, hbb0, hzs⟩ := info70
      obtain ⟨tk, htk⟩ := show32 (od k) (HP.out k hkn).1
      have HTK := Lib.hid htk
      clear htk
      go_wp2_with (first
        | (go_at_call 74; obtain ⟨v0, hv0⟩ := HK.out.1.vc; refine (set32 (ss k) (od k) (bd k) (HP.out k hkn).2 wr (HG.out.1.on HK.out.1.bel) (HG.out.2.on HK.out.1.bel) w.heap.size v0 (by have := HK.out.1.sz; omega) hv0 HK.out.1.zv).mono ?_; rintro r w2 ⟨er, y, hy, rfl, hE, hgr, hc2, hz2⟩; have hEN : ErrN (bd k) er := errN_of hE; have hne := err_ne _ _ hEN; have hneg := err_guard _ _ hEN; have HM2 := Lib.hid (HK.out.1.set hgr hc2 hz2); have HS2 := Lib.hid (HK.out.2.frame fun j h1 h2 => hgr.block j h2 (fun e => by have := Option.some.inj e; omega)); have HY := Lib.hid (And.intro hy hc2); clear hE hgr hc2 hz2 hy hv0 hEN))
      have hsz2 := HM2.out.sz
      obtain ⟨cv2, cd2, hcv2, hcw2⟩ := conv_to64 66 Tryz.underlying66 (od k) (HP.out k hkn).1 y HY.out.1
      have HCW2 := Lib.hid hcw2
      have hS0 : Below (w.heap.size + 1) w2 w2.drew := (Below.refl _ _).drew
      have hld : ∀ w' : World, Below (w.heap.size + 1) w2 w' → w'.cell? ⟨w.heap.size, 0, none⟩ = some (.float .f32 y) := fun w' h => (h.cell (p := ⟨w.heap.size, 0, none⟩) (Nat.lt_succ_self _)).trans HY.out.2
      have HST := Lib.hid (fun w' (h : Below (w.heap.size + 1) w2 w') => str32 (od k) (HP.out k hkn).1 tk HTK.out y HY.out.1 w' ((HG.out.2.on (HM2.out.onB h).bel).pow) (HG.out.1.on (HM2.out.onB h).bel) w.heap.size (hld w' h))
      obtain ⟨xs, hown, hx⟩ := HS2.out
      have HO := Lib.hid (And.intro hown hx)
      clear hcw2 hown hx
      go_region_held_law (fun w' => Below (w.heap.size + 1) w2 w')
        (first | (with_reducible exact hS0) | (with_reducible exact hk4) | (with_reducible exact hkB) | (with_reducible exact below_dn (Below.refl _ _) _) | (with_reducible exact below_dn hkB _) | (with_reducible exact alka hkB (Nat.le_trans hsz2 hk3.size) _) | (with_reducible exact alkd hkB (Nat.le_trans hsz2 hk3.size) _ _))
        (first
          | (go_at_call 75; refine (HST.out _ (by assumption)).mono ?_; rintro r w3 ⟨rfl, hb3⟩; have hk3 : Below w2.heap.size w2 w3 := ⟨hb3.os, hb3.tape, hb3.output, hb3.size, hb3.block⟩; have hkB := hk3.mono hsz2)
          | ((refine step_append_lies _ (by rfl) _ _ 67 (by rfl) (w.heap.size + 1) 70 i0 z0 3 32 u67 hi0 hz0 hs0 hbb0 hzs (by decide) OUT k xs (by rfl) (own_on HO.out.1 (by first | exact alka hk3 hk3.size _ | exact alkd hk3 hk3.size _ _)) _ 1 1 _ (by rfl) (by rfl) (World.news_of_block (heap_alloc_new _ _)) (by simp [Value.oneCell']) (by decide) (by unfold maxLen; omega) (by omega) (by have := hk3.size; simp; omega) _ rfl ?_; intro gg cap2 w4 ho4 hg4 ha4 hlt4; have hA := below_grown HO.out.1 (Nat.le_trans hsz2 (Nat.le_trans hk3.size (by simp))) hg4; have hk4 := Below.trans (by first | exact alka hkB (Nat.le_trans hsz2 hk3.size) _ | exact alkd hkB (Nat.le_trans hsz2 hk3.size) _ _) hA)))
      all_goals
        have HO4 := Lib.hid (And.intro ho4 hk4)
        clear ho4 hg4 hk4 hA ha4 hlt4 hkB hk3 hb3
        go_wp2_with fail
        go_roundg (gk - 1)
        case measure => omega
        case rel => exact ⟨k + 1, _, by omega, rfl, by simp, Lib.hid ⟨HM2.out.onB HO4.out.2, Said.add HO4.out.1 HO.out.1.1 HO.out.2 rfl (HCW2.out _)⟩⟩
    · go_wp2_with fail
      all_goals (try go_ret)
      rw [HQ.out]
      have hkn : k = n := by omega
      subst hkn
      exact ⟨_, rfl, HK.out.2.mono (by omega), HK.out.1.bel⟩
set_option maxHeartbeats 2000000 in
theorem flval64 (w : World) (hg : Good w) (hw : PW w) (pv : Option Addr) (n c : Nat) (ss : Nat → ByteArray) (hT : Texts w pv n ss) (hn : n ≤ 2147483647) (ff : Nat → Nat) (bd : Nat → Bool)
    (hP : ∀ i, i < n → ff i < 18446744073709551616 ∧ ∀ w, Good w → PW w → Calls Tryz.prog 133 #[.string (ss i), .int .i64 64] w (NumPost w (.float .f64 (ff i)) (bd i))) (d : Nat) :
    Calls Tryz.prog 37 #[.int .i64 64, .float .f64 d, .slice pv n c] w fun e w' => ∃ out, e = .returned out ∧ Said w' w.heap.size out n bd (fun i g => g = ff i ∨ (¬ Num64 (ff i) ∧ ¬ Num64 g)) ∧ Below w.heap.size w w' := by
  obtain ⟨Q, hQ⟩ : ∃ Q : Ending → World → Prop, Q = fun e w' => ∃ out, e = .returned out ∧ Said w' w.heap.size out n bd (fun i g => g = ff i ∨ (¬ Num64 (ff i) ∧ ¬ Num64 g)) ∧ Below w.heap.size w w' := ⟨_, rfl⟩
  rw [← hQ]
  have HQ := Lib.hid hQ
  have HG := Lib.hid (And.intro hg hw)
  have HT := Lib.hid hT
  have HP := Lib.hid hP
  have hlc : (w.alloc (.cells #[.float .f64 0] 25)).cell? ⟨w.heap.size, 0, none⟩ = some (.float .f64 0) := (World.cell?_alloc_at #[.float .f64 0] 25 w.heap.size 0 rfl).trans rfl
  have hlz : (w.alloc (.cells #[.float .f64 0] 25)).frozen? ⟨w.heap.size, 0, none⟩ = false := World.frozen?_alloc_at #[.float .f64 0] 25 w.heap.size 0 rfl
  have HL := Lib.hid (And.intro hlc hlz)
  clear hQ hg hw hT hP hlc hlz
  go_enter Tryz.func37, Tryz.ntmps37
  go_wp2_with (first | (go_at_call 76; refine (newi64 _ _ w.heap.size _ HL.out.1 HL.out.2).mono ?_; rintro r w1 ⟨rfl, rfl⟩))
  have HM := Lib.hid (layv0 w (.float .f64 d) 25)
  go_loopg [7, 56] n (fun g out i wr => ∃ (k : Nat) (OUT : Value), k + g = n ∧ OUT = out ∧ i = .int .i64 k ∧ Hid (MidV w wr w.heap.size (w.heap.size + 1) ∧ Said wr (w.heap.size + 1) OUT k bd (fun i g => g = ff i ∨ (¬ Num64 (ff i) ∧ ¬ Num64 g))))
  case atStart => exact ⟨0, _, by omega, rfl, rfl, Lib.hid ⟨HM.out, Said.nil _ _ _ _⟩⟩
  case round =>
    obtain ⟨k, OUT, h1, rfl, rfl, HK⟩ := hrel
    by_cases hk : (k : Int) < (n : Int)
    · have hkn : k < n := by omega
      obtain ⟨a, rfl, hc⟩ := (HT.out.on HK.out.1.bel).2 k hkn
      obtain ⟨i0, z0, hi0, hz0, hs0, hbb0, hzs⟩ := info70
      obtain ⟨tk, fk, htk⟩ := show64 (ff k) (HP.out k hkn).1
      have HTK := Lib.hid htk
      clear htk
      go_wp2_with (first
        | (go_at_call 77; obtain ⟨v0, hv0⟩ := HK.out.1.vc; refine (set64 (ss k) (ff k) (bd k) (HP.out k hkn).2 wr (HG.out.1.on HK.out.1.bel) (HG.out.2.on HK.out.1.bel) w.heap.size v0 (by have := HK.out.1.sz; omega) hv0 HK.out.1.zv).mono ?_; rintro r w2 ⟨er, rfl, hE, hgr, hc2, hz2⟩; have hEN : ErrN (bd k) er := errN_of hE; have hne := err_ne _ _ hEN; have hneg := err_guard _ _ hEN; have HM2 := Lib.hid (HK.out.1.set hgr hc2 hz2); have HS2 := Lib.hid (HK.out.2.frame fun j h1 h2 => hgr.block j h2 (fun e => by have := Option.some.inj e; omega)); have HY := Lib.hid hc2; clear hE hgr hc2 hz2 hv0 hEN))
      have hsz2 := HM2.out.sz
      have hS0 : Below (w.heap.size + 1) w2 w2.drew := (Below.refl _ _).drew
      have hld : ∀ w' : World, Below (w.heap.size + 1) w2 w' → w'.cell? ⟨w.heap.size, 0, none⟩ = some (.float .f64 (ff k)) := fun w' h => (h.cell (p := ⟨w.heap.size, 0, none⟩) (Nat.lt_succ_self _)).trans HY.out
      have HST := Lib.hid (fun w' (h : Below (w.heap.size + 1) w2 w') => str64 (ff k) fk tk HTK.out w' ((HG.out.2.on (HM2.out.onB h).bel).pow) (HG.out.1.on (HM2.out.onB h).bel) w.heap.size (hld w' h))
      obtain ⟨xs, hown, hx⟩ := HS2.out
      have HO := Lib.hid (And.intro hown hx)
      clear hown hx
      go_region_held_law (fun w' => Below (w.heap.size + 1) w2 w')
        (first | (with_reducible exact hS0) | (with_reducible exact hk4) | (with_reducible exact hkB) | (with_reducible exact below_dn (Below.refl _ _) _) | (with_reducible exact below_dn hkB _) | (with_reducible exact alka hkB (Nat.le_trans hsz2 hk3.size) _) | (with_reducible exact alkd hkB (Nat.le_trans hsz2 hk3.size) _ _))
        (first
          | (go_at_call 78; refine (HST.out _ (by assumption)).mono ?_; rintro r w3 ⟨rfl, hb3⟩; have hk3 : Below w2.heap.size w2 w3 := ⟨hb3.os, hb3.tape, hb3.output, hb3.size, hb3.block⟩; have hkB := hk3.mono hsz2)
          | ((refine step_append_lies _ (by rfl) _ _ 67 (by rfl) (w.heap.size + 1) 70 i0 z0 3 32 Go.Proofs.YtnggkkdcddpjlaaGreatDoor.u67 hi0 hz0 hs0 hbb0 hzs (by decide) OUT k xs (by rfl) (own_on HO.out.1 (by first | exact alka hk3 hk3.size _ | exact alkd hk3 hk3.size _ _)) _ 1 1 _ (by rfl) (by rfl) (World.news_of_block (heap_alloc_new _ _)) (by simp [Value.oneCell']) (by decide) (by unfold maxLen; omega) (by omega) (by have := hk3.size; simp; omega) _ rfl ?_; intro gg cap2 w4 ho4 hg4 ha4 hlt4; have hA := below_grown HO.out.1 (Nat.le_trans hsz2 (Nat.le_trans hk3.size (by simp))) hg4; have hk4 := Below.trans (by first | exact alka hkB (Nat.le_trans hsz2 hk3.size) _ | exact alkd hkB (Nat.le_trans hsz2 hk3.size) _ _) hA)))
      all_goals
        have HO4 := Lib.hid (And.intro ho4 hk4)
        clear ho4 hg4 hk4 hA ha4 hlt4 hkB hk3 hb3
        go_wp2_with fail
        go_roundg (gk - 1)
        case measure => omega
        case rel => exact ⟨k + 1, _, by omega, rfl, by simp, Lib.hid ⟨HM2.out.onB HO4.out.2, Said.add HO4.out.1 HO.out.1.1 HO.out.2 rfl (Or.inl rfl)⟩⟩
    · go_wp2_with fail
      all_goals (try go_ret)
      rw [HQ.out]
      have hkn : k = n := by omega
      subst hkn
      exact ⟨_, rfl, HK.out.2.mono (by omega), HK.out.1.bel⟩
end Go.Proofs.YtnggkkdcddpjlaaGreatDoor
namespace Go.Proofs.YtnggkkdcddpjlaaGreatDoor
open Go.RowKit Ieee
set_option maxRecDepth 100000
set_option linter.unusedVariables false
set_option linter.unusedSimpArgs false
theorem ord_nan {x : Nat} (h : ¬ Num64 x) : (FloatKind.f64.format.order x x != some .eq) = true := by
  obtain ⟨s, t, hn⟩ := nan64 h
  have hn : FloatKind.f64.format.read x = .nan s t := hn
  unfold Format.order
  rw [hn]
  rfl
theorem ord_self (d : Datum) : (∃ s t, d = .nan s t) ∨ d.order d = some .eq := by
  cases d with
  | nan s t => exact Or.inl ⟨s, t, rfl⟩
  | infinity s => right; cases s <;> rfl
  | number s m i =>
    right
    show some (compare _ _) = some .eq
    congr 1
    simp [compare, compareOfLessAndEq]
theorem ord_num {x : Nat} (hx : x < 18446744073709551616) (h : Num64 x) : (FloatKind.f64.format.order x x != some .eq) = false := by
  unfold Format.order
  rcases ord_self (FloatKind.f64.format.read x) with ⟨s, t, hn⟩ | hn
  · exfalso
    unfold Num64 at h
    have e1 : FloatKind.f64.format.signWeight = 9223372036854775808 := by decide
    have e2 : FloatKind.f64.format.infRung = 9218868437227405312 := by decide
    unfold Format.read at hn
    rw [e1, e2] at hn
    dsimp only at hn
    split at hn
    · cases hn
    · split at hn
      · cases hn
      · split at hn
        · cases hn
        · omega
  · rw [hn]; rfl
theorem smB_same (x : Nat) : smB x x = true := by simp [smB]
theorem smB_nan {x y : Nat} (hx : ¬ Num64 x) (hy : ¬ Num64 y) : smB x y = true := by
  unfold smB
  rw [ord_nan hx, ord_nan hy]
  simp
theorem smB_to {x y : Nat} (hx : x < 18446744073709551616) (h : smB x y = true) : x = y ∨ ¬ Num64 x := by
  by_cases hn : Num64 x
  · left
    unfold smB at h
    rw [ord_num hx hn] at h
    simpa using h
  · exact Or.inr hn
theorem smB_32 {o : Option Nat} {x y : Nat} (hx : G32 o x) (hy : G32 o y) : smB x y = true := by
  obtain ⟨_, hx⟩ := hx
  obtain ⟨_, hy⟩ := hy
  cases o with
  | some z =>
    have e := hx.1.symm.trans hy.1
    obtain rfl := Option.some.inj e
    exact smB_same x
  | none => exact smB_nan hx hy
theorem smB_64 {f x y : Nat} (hx : x = f ∨ (¬ Num64 f ∧ ¬ Num64 x)) (hy : y = f ∨ (¬ Num64 f ∧ ¬ Num64 y)) : smB x y = true := by
  rcases hx with rfl | ⟨h1, h2⟩
  · rcases hy with rfl | ⟨h3, h4⟩
    · exact smB_same _
    · exact smB_nan h3 h4
  · rcases hy with rfl | ⟨h3, h4⟩
    · exact smB_nan h2 h1
    · exact smB_nan h2 h4
end Go.Proofs.YtnggkkdcddpjlaaGreatDoor
