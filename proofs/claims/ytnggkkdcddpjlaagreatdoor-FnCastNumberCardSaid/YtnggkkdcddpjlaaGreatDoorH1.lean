/- strconv's decimal in memory; trim. -/
import Derived.Test.YtnggkkdcddpjlaaGreatDoorH0
import Derived.Test.YtnggkkdcddpjlaaGreatDoorG1
import Derived.Deep.LoopGhost
import Derived.Outline
namespace Go.Proofs.YtnggkkdcddpjlaaGreatDoor
open Go.RowKit
set_option maxRecDepth 100000
set_option linter.unusedVariables false
set_option linter.unusedSimpArgs false
/-- The decimal lies in block b. -/
structure DecAt (w : World) (b : Nat) (x : Dec) : Prop where
  dg : ∀ i, i < 800 → w.cell? ⟨b, i, none⟩ = some (.int .u8 (x.d i))
  nd : w.cell? ⟨b, 800, none⟩ = some (.int .i64 x.nd)
  dp : w.cell? ⟨b, 801, none⟩ = some (.int .i64 x.dp)
  ng : w.cell? ⟨b, 802, none⟩ = some (.bool x.ng)
  tr : w.cell? ⟨b, 803, none⟩ = some (.bool x.tr)
  fr : ∀ i, w.frozen? ⟨b, i, none⟩ = false
theorem DecAt.drewN {w : World} {b : Nat} {x : Dec} (h : DecAt w b x) (n : Nat) : DecAt (w.drewN n) b x := ⟨h.dg, h.nd, h.dp, h.ng, h.tr, h.fr⟩
theorem other {w : World} {b i j : Nat} {v : Value} {u : Option Value} (hij : i ≠ j) (h : w.cell? ⟨b, j, none⟩ = u) : (w.setCell ⟨b, i, none⟩ v).cell? ⟨b, j, none⟩ = u := by
  rw [World.cell?_setCell_other _ _ _ _ (by intro e; injection e with _ e2 _; exact hij e2)]
  exact h
theorem DecAt.setd {w : World} {b : Nat} {x : Dec} (h : DecAt w b x) (i : Nat) (hi : i < 800) (v : Int) : DecAt (w.setCell ⟨b, i, none⟩ (.int .u8 v)) b ⟨dupd x.d i v, x.nd, x.dp, x.ng, x.tr⟩ := by
  refine ⟨fun j hj => ?_, other (by omega) h.nd, other (by omega) h.dp, other (by omega) h.ng, other (by omega) h.tr, fun j => by rw [World.frozen?_setCell]; exact h.fr j⟩
  by_cases e : j = i
  · subst e
    rw [World.cell?_setCell_same _ _ _ (h.dg j hj)]
    show _ = some (Value.int .u8 (dupd x.d j v j))
    rw [upd_at]
  · show _ = some (Value.int .u8 (dupd x.d i v j))
    rw [upd_ne _ _ _ e]
    exact other (Ne.symm e) (h.dg j hj)
theorem DecAt.setnd {w : World} {b : Nat} {x : Dec} (h : DecAt w b x) (n : Nat) : DecAt (w.setCell ⟨b, 800, none⟩ (.int .i64 n)) b ⟨x.d, n, x.dp, x.ng, x.tr⟩ :=
  ⟨fun j hj => other (by omega) (h.dg j hj), World.cell?_setCell_same _ _ _ h.nd, other (by omega) h.dp, other (by omega) h.ng, other (by omega) h.tr, fun j => by rw [World.frozen?_setCell]; exact h.fr j⟩
theorem DecAt.setdp {w : World} {b : Nat} {x : Dec} (h : DecAt w b x) (n : Int) : DecAt (w.setCell ⟨b, 801, none⟩ (.int .i64 n)) b ⟨x.d, x.nd, n, x.ng, x.tr⟩ :=
  ⟨fun j hj => other (by omega) (h.dg j hj), other (by omega) h.nd, World.cell?_setCell_same _ _ _ h.dp, other (by omega) h.ng, other (by omega) h.tr, fun j => by rw [World.frozen?_setCell]; exact h.fr j⟩
theorem DecAt.setng {w : World} {b : Nat} {x : Dec} (h : DecAt w b x) (n : Bool) : DecAt (w.setCell ⟨b, 802, none⟩ (.bool n)) b ⟨x.d, x.nd, x.dp, n, x.tr⟩ :=
  ⟨fun j hj => other (by omega) (h.dg j hj), other (by omega) h.nd, other (by omega) h.dp, World.cell?_setCell_same _ _ _ h.ng, other (by omega) h.tr, fun j => by rw [World.frozen?_setCell]; exact h.fr j⟩
theorem DecAt.settr {w : World} {b : Nat} {x : Dec} (h : DecAt w b x) (n : Bool) : DecAt (w.setCell ⟨b, 803, none⟩ (.bool n)) b ⟨x.d, x.nd, x.dp, x.ng, n⟩ :=
  ⟨fun j hj => other (by omega) (h.dg j hj), other (by omega) h.nd, other (by omega) h.dp, other (by omega) h.ng, World.cell?_setCell_same _ _ _ h.tr, fun j => by rw [World.frozen?_setCell]; exact h.fr j⟩
theorem DecAt.congr {w : World} {b : Nat} {x y : Dec} (h : DecAt w b x) (e : x = y) : DecAt w b y := e ▸ h
/-- What a call does to a decimal: nothing below B, and it turns into x. -/
def Turned (B b : Nat) (w : World) (x : Dec) (e : Ending) (w' : World) : Prop := e = .returned (.tuple #[]) ∧ DecAt w' b x ∧ Below B w w'
theorem below_set {B : Nat} {a w : World} (h : Below B a w) {b o : Nat} (hb : B ≤ b) (u : Value) : Below B a (w.setCell ⟨b, o, none⟩ u) := h.setCell (p := ⟨b, o, none⟩) hb u
theorem below_dn {B : Nat} {a w : World} (h : Below B a w) (n : Nat) : Below B a (w.drewN n) := ⟨h.os, h.tape, h.output, h.size, h.block⟩
set_option maxHeartbeats 1000000 in
theorem trim_run (x : Dec) (hx : x.nd ≤ 800) (B b : Nat) (hB : B ≤ b) (w : World) (h : DecAt w b x) : Calls Tryz.prog 231 #[.pointer (some ⟨b, 0, none⟩)] w (Turned B b w (trimX x)) := by
  obtain ⟨d, nd, dp, ng, tr⟩ := x
  obtain ⟨N, hN⟩ : ∃ N, N = trimN d nd := ⟨_, rfl⟩
  have HN := Lib.hid hN
  have hX : trimX ⟨d, nd, dp, ng, tr⟩ = ⟨d, N, if N = 0 then 0 else dp, ng, tr⟩ := by rw [hN]; rfl
  rw [hX]
  clear hX hN
  have H := Lib.hid h
  clear h
  obtain ⟨Q, hQ⟩ : ∃ Q, Q = Turned B b w ⟨d, N, if N = 0 then 0 else dp, ng, tr⟩ := ⟨_, rfl⟩
  rw [← hQ]
  have HQ := Lib.hid hQ
  clear hQ
  dsimp only at hx
  go_enter Tryz.func231, Tryz.ntmps231
  go_wp2
  go_loopg [19] nd (fun k p wr => k ≤ nd ∧ DecAt wr b ⟨d, k, dp, ng, tr⟩ ∧ Below B w wr ∧ N = trimN d k)
  case atStart => exact ⟨Nat.le_refl _, H.out, Below.refl _ _, HN.out⟩
  case round =>
    obtain ⟨h1, h2, h3, h4⟩ := hrel
    have H2 := Lib.hid h2
    have H3 := Lib.hid h3
    have H4 := Lib.hid h4
    clear h2 h3 h4
    have hnd := H2.out.nd
    have hdp := H2.out.dp
    have hf1 := H2.out.fr 800
    have hf2 := H2.out.fr 801
    dsimp only at hnd hdp
    cases gk with
    | zero =>
      have hd : decide ((0 : Int) < ((0 : Nat) : Int)) = false := by decide
      go_wp2_with fail
      go_quiet (fail)
      go_wp2
      go_end0
      rw [HQ.out]
      have h0 : N = 0 := H4.out
      refine ⟨rfl, ?_, below_set (below_dn H3.out nq) hB _⟩
      rw [h0]
      exact (H2.out.drewN nq).setdp 0
    | succ k =>
      have hc := H2.out.dg k (by omega)
      dsimp only at hc
      have hk1 : (k : Int) < 800 := by omega
      have hk0 : (0 : Int) ≤ k := by omega
      have hd : decide ((0 : Int) < ((k + 1 : Nat) : Int)) = true := by simp
      by_cases h48 : d k = 48
      · go_wp2_with fail
        go_quiet (fail)
        go_wp2
        go_roundg k
        case measure => omega
        case rel =>
          refine ⟨by omega, (H2.out.drewN nq).setnd k, below_set (below_dn H3.out nq) hB _, ?_⟩
          rw [H4.out, trimN, if_pos h48]
      · have h48b : (d k == 48) = false := by simpa using h48
        go_wp2_with fail
        go_quiet (fail)
        go_wp2
        go_end0
        rw [HQ.out]
        have h0 : N = k + 1 := by rw [H4.out, trimN, if_neg h48]
        refine ⟨rfl, ?_, below_dn H3.out nq⟩
        rw [h0]
        exact H2.out.drewN nq
end Go.Proofs.YtnggkkdcddpjlaaGreatDoor
