/- internal/strconv.fmtEFG at the form 'f', shortest: its cases as one; FormatFloat's walk down to it. -/
import Derived.Test.YtnggkkdcddpjlaaGreatDoorD4
namespace Go.Proofs.YtnggkkdcddpjlaaGreatDoor
open Go.RowKit
set_option maxRecDepth 100000
set_option linter.unusedVariables false
/-- A byte as a value. -/
def vb (b : UInt8) : Value := .int .u8 (b.toNat : Int)
theorem vb_range (B : Nat → UInt8) (n k : Nat) : (List.range n).map (fun t => bt (((fun t => ((B t).toNat : Int)) (k + t)))) = ((List.range n).map fun t => B (k + t)).map vb := by
  rw [List.map_map]; rfl
theorem vb_range0 (B : Nat → UInt8) (n : Nat) : (List.range n).map (fun t => bt (((fun t => ((B t).toNat : Int)) t))) = ((List.range n).map fun t => B t).map vb := by
  rw [List.map_map]; rfl
theorem vb_rep (n : Nat) : List.replicate n (bt 48) = (List.replicate n (48 : UInt8)).map vb := by
  rw [List.map_replicate]; rfl
theorem vb_one (b : UInt8) : [bt (b.toNat : Int)] = [b].map vb := rfl
theorem fmt_all (neg : Bool) (nd : Nat) (dp : Int) (B : Nat → UInt8) (hnd : nd ≤ 32) (h0 : -400 ≤ dp) (h1 : dp ≤ 400) : ∃ out : List UInt8, out.length ≤ 900 ∧
    ∀ (db : Nat) (v : Value) (w0 w : World), Dst w0 w db nd (fun t => ((B t).toNat : Int)) v [] → Calls Tryz.prog 200 #[v, .bool neg, .slice (some ⟨db, 0, none⟩) 32 32, .int .i64 dp, .int .i64 nd, .int .i64 (max ((nd : Int) - dp) 0), .int .u8 102, .bool true] w fun r w' => ∃ v', r = .returned v' ∧ Dst w0 w' db nd (fun t => ((B t).toNat : Int)) v' (out.map vb) := by
  have e45 : [bt 45] = [(45 : UInt8)].map vb := rfl
  have e46 : [bt 46] = [(46 : UInt8)].map vb := rfl
  have e48 : [bt 48] = [(48 : UInt8)].map vb := rfl
  rcases (by omega : 0 < dp ∨ dp ≤ 0) with hd | hd
  · obtain ⟨dpn, rfl⟩ : ∃ n : Nat, dp = n := ⟨dp.toNat, by omega⟩
    rcases (by omega : dpn < nd ∨ nd ≤ dpn) with hn | hn
    · have hm : max ((nd : Int) - dpn) 0 = ((nd - dpn : Nat) : Int) := by omega
      rw [hm]
      cases neg
      · refine ⟨((List.range dpn).map fun t => B t) ++ [46] ++ ((List.range (nd - dpn)).map fun t => B (dpn + t)), by simp; omega, fun db v w0 w h => ?_⟩
        have h2 := fmt_f_pp db nd 32 32 _ v [] w0 w true h hnd (by omega) (by omega) (by simp) dpn dpn _ rfl hd hn (by omega) _ rfl rfl
        rw [vb_range, vb_range0, e46, List.nil_append, ← List.map_append, ← List.map_append] at h2
        exact h2
      · refine ⟨[45] ++ ((List.range dpn).map fun t => B t) ++ [46] ++ ((List.range (nd - dpn)).map fun t => B (dpn + t)), by simp; omega, fun db v w0 w h => ?_⟩
        have h2 := fmt_f_pp_neg db nd 32 32 _ v [] w0 w true h hnd (by omega) (by omega) (by simp) dpn dpn _ rfl hd hn (by omega) _ rfl rfl
        rw [vb_range, vb_range0, e46, e45, List.nil_append, ← List.map_append, ← List.map_append, ← List.map_append] at h2
        exact h2
    · have hm : max ((nd : Int) - dpn) 0 = 0 := by omega
      rw [hm]
      cases neg
      · refine ⟨((List.range nd).map fun t => B t) ++ List.replicate (dpn - nd) 48, by simp; omega, fun db v w0 w h => ?_⟩
        have h2 := fmt_f_pn db nd 32 32 _ v [] w0 w true h hnd (by omega) (by omega) (by simp) dpn 0 hd h1 (by omega) nd (dpn - nd) (by omega) (by omega)
        rw [vb_range0, vb_rep, List.nil_append, ← List.map_append] at h2
        exact h2
      · refine ⟨[45] ++ ((List.range nd).map fun t => B t) ++ List.replicate (dpn - nd) 48, by simp; omega, fun db v w0 w h => ?_⟩
        have h2 := fmt_f_pn_neg db nd 32 32 _ v [] w0 w true h hnd (by omega) (by omega) (by simp) dpn 0 hd h1 (by omega) nd (dpn - nd) (by omega) (by omega)
        rw [vb_range0, vb_rep, e45, List.nil_append, ← List.map_append, ← List.map_append] at h2
        exact h2
  · obtain ⟨Z, rfl⟩ : ∃ n : Nat, dp = -(n : Int) := ⟨(-dp).toNat, by omega⟩
    have hm : max ((nd : Int) - -(Z : Int)) 0 = nd + Z := by omega
    rw [hm]
    rcases (by omega : 0 < nd + Z ∨ (nd = 0 ∧ Z = 0)) with hn | ⟨rfl, rfl⟩
    · cases neg
      · refine ⟨[48] ++ [46] ++ List.replicate Z 48 ++ ((List.range nd).map fun t => B t), by simp; omega, fun db v w0 w h => ?_⟩
        have h2 := fmt_f_np db nd 32 32 _ v [] w0 w true h hnd (by omega) (by omega) (by simp) Z _ ((nd : Int) + Z) rfl (by omega) (by omega) rfl (by omega)
        rw [vb_range0, vb_rep, e48, e46, List.nil_append, ← List.map_append, ← List.map_append, ← List.map_append] at h2
        exact h2
      · refine ⟨[45] ++ [48] ++ [46] ++ List.replicate Z 48 ++ ((List.range nd).map fun t => B t), by simp; omega, fun db v w0 w h => ?_⟩
        have h2 := fmt_f_np_neg db nd 32 32 _ v [] w0 w true h hnd (by omega) (by omega) (by simp) Z _ ((nd : Int) + Z) rfl (by omega) (by omega) rfl (by omega)
        rw [vb_range0, vb_rep, e48, e46, e45, List.nil_append, ← List.map_append, ← List.map_append, ← List.map_append, ← List.map_append] at h2
        exact h2
    · cases neg
      · refine ⟨[48], by simp, fun db v w0 w h => ?_⟩
        have h2 := fmt_f_nn db 0 (.slice (some ⟨db, 0, none⟩) 32 32) _ v [] w0 w true h (by simp) 0 0 (by omega) (by omega) (by omega)
        exact h2
      · refine ⟨[45] ++ [48], by simp, fun db v w0 w h => ?_⟩
        have h2 := fmt_f_nn_neg db 0 (.slice (some ⟨db, 0, none⟩) 32 32) _ v [] w0 w true h (by simp) 0 0 (by omega) (by omega) (by omega)
        exact h2
end Go.Proofs.YtnggkkdcddpjlaaGreatDoor
