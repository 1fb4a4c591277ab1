/- internal/strconv.fmtEFG at the form 'g', shortest: its cases as one, with what its text is read as. -/
import Derived.Test.YtnggkkdcddpjlaaGreatDoorZ35
import Derived.Test.YtnggkkdcddpjlaaGreatDoorZ36
import Derived.Test.YtnggkkdcddpjlaaGreatDoorZ37
namespace Go.Proofs.YtnggkkdcddpjlaaGreatDoor
open Go.RowKit
set_option maxRecDepth 100000
set_option linter.unusedVariables false
set_option linter.unusedSimpArgs false
/-- A byte as a value. -/
def vb (b : UInt8) : Value := .int .u8 (b.toNat : Int)
theorem vb_map (B : Nat → UInt8) (k n : Nat) : ((List.range n).map fun t => B (k + t)).map vb = (List.range n).map fun t => bt (nb B (k + t)) := by
  rw [List.map_map]; rfl
theorem vb_map0 (B : Nat → UInt8) (n : Nat) : ((List.range n).map fun t => B t).map vb = (List.range n).map fun t => bt (nb B t) := by
  rw [List.map_map]; rfl
theorem vb_rep (n : Nat) : (List.replicate n (48 : UInt8)).map vb = List.replicate n (bt 48) := by
  rw [List.map_replicate]; rfl
theorem vb_of (n : Nat) (h : n < 256) (z : Int) (hz : z = n) : vb (UInt8.ofNat n) = bt z := by
  unfold vb bt
  rw [ofN n h, hz]
theorem xlm_a (E : Nat) (h : E < 10) : (xlB E).map vb = [bt 48, bt ((E : Int) + 48)] := by
  unfold xlB
  rw [if_pos h, List.map_cons, List.map_cons, List.map_nil, vb_of (48 + E) (by omega) ((E : Int) + 48) (by omega)]
  rfl
theorem xlm_b (E : Nat) (h0 : 10 ≤ E) (h : E < 100) : (xlB E).map vb = [bt ((E : Int) / 10 + 48), bt ((E : Int) % 10 + 48)] := by
  unfold xlB
  rw [if_neg (by omega), if_pos h, List.map_cons, List.map_cons, List.map_nil, vb_of (48 + E / 10) (by omega) ((E : Int) / 10 + 48) (by omega), vb_of (48 + E % 10) (by omega) ((E : Int) % 10 + 48) (by omega)]
theorem xlm_c (E : Nat) (h0 : 100 ≤ E) (h : E < 400) : (xlB E).map vb = [bt ((E : Int) / 100 + 48), bt ((E : Int) / 10 % 10 + 48), bt ((E : Int) % 10 + 48)] := by
  unfold xlB
  rw [if_neg (by omega), if_neg (by omega), List.map_cons, List.map_cons, List.map_cons, List.map_nil, vb_of (48 + E / 100) (by omega) ((E : Int) / 100 + 48) (by omega), vb_of (48 + E / 10 % 10) (by omega) ((E : Int) / 10 % 10 + 48) (by omega), vb_of (48 + E % 10) (by omega) ((E : Int) % 10 + 48) (by omega)]
/-- fmtEFG prints the bytes out. -/
def Prints (neg : Bool) (nd : Nat) (dp : Int) (B : Nat → UInt8) (out : List UInt8) : Prop :=
  ∀ (db : Nat) (v : Value) (w0 w : World), Dst w0 w db nd (nb B) v [] → Calls Tryz.prog 200 #[v, .bool neg, .slice (some ⟨db, 0, none⟩) 32 32, .int .i64 dp, .int .i64 nd, .int .i64 nd, .int .u8 103, .bool true] w fun r w' => ∃ v', r = .returned v' ∧ Dst w0 w' db nd (nb B) v' (out.map vb)
theorem pr_pn (B : Nat → UInt8) (nd Z : Nat) (dp : Int) (hnd : 0 < nd) (hdp : dp = nd + Z) (hz : nd + Z ≤ 6) : Prints false nd dp B (sgnL false ++ (((List.range nd).map fun t => B t) ++ List.replicate Z 48)) := fun db v w0 w h => by
  have h2 := fmt_g_pn db nd 32 32 (nb B) v [] w0 w h (by omega) (by omega) (by omega) (by decide) dp (by omega) (by omega) (by omega) hnd Z (by omega)
  have e : (sgnL false ++ (((List.range nd).map fun t => B t) ++ List.replicate Z 48)).map vb = [] ++ ((List.range nd).map fun t => bt (nb B t)) ++ List.replicate Z (bt 48) := by
    simp only [List.map_append, sgnL, vb_map0, vb_rep]
    simp [vb, bt, nb]
  rw [e]
  exact h2
theorem pr_pp (B : Nat → UInt8) (a b nd : Nat) (ha : 0 < a) (hb : 0 < b) (ha6 : a ≤ 6) (hab : nd = a + b) (hn : nd ≤ 18) : Prints false nd a B (sgnL false ++ (((List.range a).map fun t => B t) ++ [46] ++ ((List.range b).map fun t => B (a + t)))) := fun db v w0 w h => by
  have h2 := fmt_g_pp db nd 32 32 (nb B) v [] w0 w h (by omega) (by omega) (by omega) (by decide) a ha ha6 (by omega) (by omega) b (by omega)
  have e : (sgnL false ++ (((List.range a).map fun t => B t) ++ [46] ++ ((List.range b).map fun t => B (a + t)))).map vb = [] ++ ((List.range a).map fun t => bt (nb B t)) ++ [bt 46] ++ ((List.range b).map fun t => bt (nb B (a + t))) := by
    simp only [List.map_append, sgnL, vb_map0, vb_map]
    simp [vb, bt, nb]
  rw [e]
  exact h2
theorem pr_np (B : Nat → UInt8) (Z nd : Nat) (dp : Int) (hdp : dp = -(Z : Int)) (hZ : Z ≤ 3) (hnd : 0 < nd) (hn : nd ≤ 18) : Prints false nd dp B (sgnL false ++ ([48] ++ [46] ++ List.replicate Z 48 ++ ((List.range nd).map fun t => B t))) := fun db v w0 w h => by
  subst hdp
  have h2 := fmt_g_np db nd 32 32 (nb B) v [] w0 w h (by omega) (by omega) (by omega) (by decide) Z hZ (by omega) hnd
  have e : (sgnL false ++ ([48] ++ [46] ++ List.replicate Z 48 ++ ((List.range nd).map fun t => B t))).map vb = [] ++ [bt 48] ++ [bt 46] ++ List.replicate Z (bt 48) ++ ((List.range nd).map fun t => bt (nb B t)) := by
    simp only [List.map_append, sgnL, vb_map0, vb_rep]
    simp [vb, bt, nb]
  rw [e]
  exact h2
theorem pr_pn_neg (B : Nat → UInt8) (nd Z : Nat) (dp : Int) (hnd : 0 < nd) (hdp : dp = nd + Z) (hz : nd + Z ≤ 6) : Prints true nd dp B (sgnL true ++ (((List.range nd).map fun t => B t) ++ List.replicate Z 48)) := fun db v w0 w h => by
  have h2 := fmt_g_pn_neg db nd 32 32 (nb B) v [] w0 w h (by omega) (by omega) (by omega) (by decide) dp (by omega) (by omega) (by omega) hnd Z (by omega)
  have e : (sgnL true ++ (((List.range nd).map fun t => B t) ++ List.replicate Z 48)).map vb = [] ++ [bt 45] ++ ((List.range nd).map fun t => bt (nb B t)) ++ List.replicate Z (bt 48) := by
    simp only [List.map_append, sgnL, vb_map0, vb_rep]
    simp [vb, bt, nb]
  rw [e]
  exact h2
theorem pr_pp_neg (B : Nat → UInt8) (a b nd : Nat) (ha : 0 < a) (hb : 0 < b) (ha6 : a ≤ 6) (hab : nd = a + b) (hn : nd ≤ 18) : Prints true nd a B (sgnL true ++ (((List.range a).map fun t => B t) ++ [46] ++ ((List.range b).map fun t => B (a + t)))) := fun db v w0 w h => by
  have h2 := fmt_g_pp_neg db nd 32 32 (nb B) v [] w0 w h (by omega) (by omega) (by omega) (by decide) a ha ha6 (by omega) (by omega) b (by omega)
  have e : (sgnL true ++ (((List.range a).map fun t => B t) ++ [46] ++ ((List.range b).map fun t => B (a + t)))).map vb = [] ++ [bt 45] ++ ((List.range a).map fun t => bt (nb B t)) ++ [bt 46] ++ ((List.range b).map fun t => bt (nb B (a + t))) := by
    simp only [List.map_append, sgnL, vb_map0, vb_map]
    simp [vb, bt, nb]
  rw [e]
  exact h2
theorem pr_np_neg (B : Nat → UInt8) (Z nd : Nat) (dp : Int) (hdp : dp = -(Z : Int)) (hZ : Z ≤ 3) (hnd : 0 < nd) (hn : nd ≤ 18) : Prints true nd dp B (sgnL true ++ ([48] ++ [46] ++ List.replicate Z 48 ++ ((List.range nd).map fun t => B t))) := fun db v w0 w h => by
  subst hdp
  have h2 := fmt_g_np_neg db nd 32 32 (nb B) v [] w0 w h (by omega) (by omega) (by omega) (by decide) Z hZ (by omega) hnd
  have e : (sgnL true ++ ([48] ++ [46] ++ List.replicate Z 48 ++ ((List.range nd).map fun t => B t))).map vb = [] ++ [bt 45] ++ [bt 48] ++ [bt 46] ++ List.replicate Z (bt 48) ++ ((List.range nd).map fun t => bt (nb B t)) := by
    simp only [List.map_append, sgnL, vb_map0, vb_rep]
    simp [vb, bt, nb]
  rw [e]
  exact h2
theorem pr_e1_hi_a (B : Nat → UInt8)  (dp : Int) (E : Nat) (hE : dp - 1 = (E : Int)) (h5 : 6 ≤ E) (hE1 : E < 10) (hb0 : -400 ≤ dp) (hb1 : dp ≤ 400) : Prints false 1 dp B (sgnL false ++ ([B 0] ++ [101] ++ [if false = true then 45 else 43] ++ xlB E)) := fun db v w0 w h => by
  have h2 := fmt_e1_hi_a db 32 32 (nb B) v [] w0 w h (by omega) (by omega) (by omega) (by decide) dp E hE h5 hE1 hb0 hb1
  have e : (sgnL false ++ ([B 0] ++ [101] ++ [if false = true then 45 else 43] ++ xlB E)).map vb = [] ++ [bt (nb B 0)] ++ [bt 101] ++ [bt 43] ++ (xlB E).map vb := by
    simp only [List.map_append, sgnL]
    simp [vb, bt, nb]
  rw [xlm_a E hE1] at e
  rw [e]
  exact h2
theorem pr_e1_hi_b (B : Nat → UInt8)  (dp : Int) (E : Nat) (hE : dp - 1 = (E : Int)) (h5 : 6 ≤ E) (hE0 : 10 ≤ E) (hE1 : E < 100) (hb0 : -400 ≤ dp) (hb1 : dp ≤ 400) : Prints false 1 dp B (sgnL false ++ ([B 0] ++ [101] ++ [if false = true then 45 else 43] ++ xlB E)) := fun db v w0 w h => by
  have h2 := fmt_e1_hi_b db 32 32 (nb B) v [] w0 w h (by omega) (by omega) (by omega) (by decide) dp E hE h5 hE0 hE1 hb0 hb1
  have e : (sgnL false ++ ([B 0] ++ [101] ++ [if false = true then 45 else 43] ++ xlB E)).map vb = [] ++ [bt (nb B 0)] ++ [bt 101] ++ [bt 43] ++ (xlB E).map vb := by
    simp only [List.map_append, sgnL]
    simp [vb, bt, nb]
  rw [xlm_b E hE0 hE1] at e
  rw [e]
  exact h2
theorem pr_e1_hi_c (B : Nat → UInt8)  (dp : Int) (E : Nat) (hE : dp - 1 = (E : Int)) (h5 : 6 ≤ E) (hE0 : 100 ≤ E) (hE1 : E < 400) (hb0 : -400 ≤ dp) (hb1 : dp ≤ 400) : Prints false 1 dp B (sgnL false ++ ([B 0] ++ [101] ++ [if false = true then 45 else 43] ++ xlB E)) := fun db v w0 w h => by
  have h2 := fmt_e1_hi_c db 32 32 (nb B) v [] w0 w h (by omega) (by omega) (by omega) (by decide) dp E hE h5 hE0 hE1 hb0 hb1
  have e : (sgnL false ++ ([B 0] ++ [101] ++ [if false = true then 45 else 43] ++ xlB E)).map vb = [] ++ [bt (nb B 0)] ++ [bt 101] ++ [bt 43] ++ (xlB E).map vb := by
    simp only [List.map_append, sgnL]
    simp [vb, bt, nb]
  rw [xlm_c E hE0 hE1] at e
  rw [e]
  exact h2
theorem pr_e1_lo_a (B : Nat → UInt8)  (dp : Int) (E : Nat) (hE : dp - 1 = -(E : Int)) (h5 : 5 ≤ E) (hE1 : E < 10) (hb0 : -400 ≤ dp) (hb1 : dp ≤ 400) : Prints false 1 dp B (sgnL false ++ ([B 0] ++ [101] ++ [if true = true then 45 else 43] ++ xlB E)) := fun db v w0 w h => by
  have h2 := fmt_e1_lo_a db 32 32 (nb B) v [] w0 w h (by omega) (by omega) (by omega) (by decide) dp E hE h5 hE1 hb0 hb1
  have e : (sgnL false ++ ([B 0] ++ [101] ++ [if true = true then 45 else 43] ++ xlB E)).map vb = [] ++ [bt (nb B 0)] ++ [bt 101] ++ [bt 45] ++ (xlB E).map vb := by
    simp only [List.map_append, sgnL]
    simp [vb, bt, nb]
  rw [xlm_a E hE1] at e
  rw [e]
  exact h2
theorem pr_e1_lo_b (B : Nat → UInt8)  (dp : Int) (E : Nat) (hE : dp - 1 = -(E : Int)) (h5 : 5 ≤ E) (hE0 : 10 ≤ E) (hE1 : E < 100) (hb0 : -400 ≤ dp) (hb1 : dp ≤ 400) : Prints false 1 dp B (sgnL false ++ ([B 0] ++ [101] ++ [if true = true then 45 else 43] ++ xlB E)) := fun db v w0 w h => by
  have h2 := fmt_e1_lo_b db 32 32 (nb B) v [] w0 w h (by omega) (by omega) (by omega) (by decide) dp E hE h5 hE0 hE1 hb0 hb1
  have e : (sgnL false ++ ([B 0] ++ [101] ++ [if true = true then 45 else 43] ++ xlB E)).map vb = [] ++ [bt (nb B 0)] ++ [bt 101] ++ [bt 45] ++ (xlB E).map vb := by
    simp only [List.map_append, sgnL]
    simp [vb, bt, nb]
  rw [xlm_b E hE0 hE1] at e
  rw [e]
  exact h2
theorem pr_e1_lo_c (B : Nat → UInt8)  (dp : Int) (E : Nat) (hE : dp - 1 = -(E : Int)) (h5 : 5 ≤ E) (hE0 : 100 ≤ E) (hE1 : E < 400) (hb0 : -400 ≤ dp) (hb1 : dp ≤ 400) : Prints false 1 dp B (sgnL false ++ ([B 0] ++ [101] ++ [if true = true then 45 else 43] ++ xlB E)) := fun db v w0 w h => by
  have h2 := fmt_e1_lo_c db 32 32 (nb B) v [] w0 w h (by omega) (by omega) (by omega) (by decide) dp E hE h5 hE0 hE1 hb0 hb1
  have e : (sgnL false ++ ([B 0] ++ [101] ++ [if true = true then 45 else 43] ++ xlB E)).map vb = [] ++ [bt (nb B 0)] ++ [bt 101] ++ [bt 45] ++ (xlB E).map vb := by
    simp only [List.map_append, sgnL]
    simp [vb, bt, nb]
  rw [xlm_c E hE0 hE1] at e
  rw [e]
  exact h2
theorem pr_e1_neg_hi_a (B : Nat → UInt8)  (dp : Int) (E : Nat) (hE : dp - 1 = (E : Int)) (h5 : 6 ≤ E) (hE1 : E < 10) (hb0 : -400 ≤ dp) (hb1 : dp ≤ 400) : Prints true 1 dp B (sgnL true ++ ([B 0] ++ [101] ++ [if false = true then 45 else 43] ++ xlB E)) := fun db v w0 w h => by
  have h2 := fmt_e1_neg_hi_a db 32 32 (nb B) v [] w0 w h (by omega) (by omega) (by omega) (by decide) dp E hE h5 hE1 hb0 hb1
  have e : (sgnL true ++ ([B 0] ++ [101] ++ [if false = true then 45 else 43] ++ xlB E)).map vb = [] ++ [bt 45] ++ [bt (nb B 0)] ++ [bt 101] ++ [bt 43] ++ (xlB E).map vb := by
    simp only [List.map_append, sgnL]
    simp [vb, bt, nb]
  rw [xlm_a E hE1] at e
  rw [e]
  exact h2
theorem pr_e1_neg_hi_b (B : Nat → UInt8)  (dp : Int) (E : Nat) (hE : dp - 1 = (E : Int)) (h5 : 6 ≤ E) (hE0 : 10 ≤ E) (hE1 : E < 100) (hb0 : -400 ≤ dp) (hb1 : dp ≤ 400) : Prints true 1 dp B (sgnL true ++ ([B 0] ++ [101] ++ [if false = true then 45 else 43] ++ xlB E)) := fun db v w0 w h => by
  have h2 := fmt_e1_neg_hi_b db 32 32 (nb B) v [] w0 w h (by omega) (by omega) (by omega) (by decide) dp E hE h5 hE0 hE1 hb0 hb1
  have e : (sgnL true ++ ([B 0] ++ [101] ++ [if false = true then 45 else 43] ++ xlB E)).map vb = [] ++ [bt 45] ++ [bt (nb B 0)] ++ [bt 101] ++ [bt 43] ++ (xlB E).map vb := by
    simp only [List.map_append, sgnL]
    simp [vb, bt, nb]
  rw [xlm_b E hE0 hE1] at e
  rw [e]
  exact h2
theorem pr_e1_neg_hi_c (B : Nat → UInt8)  (dp : Int) (E : Nat) (hE : dp - 1 = (E : Int)) (h5 : 6 ≤ E) (hE0 : 100 ≤ E) (hE1 : E < 400) (hb0 : -400 ≤ dp) (hb1 : dp ≤ 400) : Prints true 1 dp B (sgnL true ++ ([B 0] ++ [101] ++ [if false = true then 45 else 43] ++ xlB E)) := fun db v w0 w h => by
  have h2 := fmt_e1_neg_hi_c db 32 32 (nb B) v [] w0 w h (by omega) (by omega) (by omega) (by decide) dp E hE h5 hE0 hE1 hb0 hb1
  have e : (sgnL true ++ ([B 0] ++ [101] ++ [if false = true then 45 else 43] ++ xlB E)).map vb = [] ++ [bt 45] ++ [bt (nb B 0)] ++ [bt 101] ++ [bt 43] ++ (xlB E).map vb := by
    simp only [List.map_append, sgnL]
    simp [vb, bt, nb]
  rw [xlm_c E hE0 hE1] at e
  rw [e]
  exact h2
theorem pr_e1_neg_lo_a (B : Nat → UInt8)  (dp : Int) (E : Nat) (hE : dp - 1 = -(E : Int)) (h5 : 5 ≤ E) (hE1 : E < 10) (hb0 : -400 ≤ dp) (hb1 : dp ≤ 400) : Prints true 1 dp B (sgnL true ++ ([B 0] ++ [101] ++ [if true = true then 45 else 43] ++ xlB E)) := fun db v w0 w h => by
  have h2 := fmt_e1_neg_lo_a db 32 32 (nb B) v [] w0 w h (by omega) (by omega) (by omega) (by decide) dp E hE h5 hE1 hb0 hb1
  have e : (sgnL true ++ ([B 0] ++ [101] ++ [if true = true then 45 else 43] ++ xlB E)).map vb = [] ++ [bt 45] ++ [bt (nb B 0)] ++ [bt 101] ++ [bt 45] ++ (xlB E).map vb := by
    simp only [List.map_append, sgnL]
    simp [vb, bt, nb]
  rw [xlm_a E hE1] at e
  rw [e]
  exact h2
theorem pr_e1_neg_lo_b (B : Nat → UInt8)  (dp : Int) (E : Nat) (hE : dp - 1 = -(E : Int)) (h5 : 5 ≤ E) (hE0 : 10 ≤ E) (hE1 : E < 100) (hb0 : -400 ≤ dp) (hb1 : dp ≤ 400) : Prints true 1 dp B (sgnL true ++ ([B 0] ++ [101] ++ [if true = true then 45 else 43] ++ xlB E)) := fun db v w0 w h => by
  have h2 := fmt_e1_neg_lo_b db 32 32 (nb B) v [] w0 w h (by omega) (by omega) (by omega) (by decide) dp E hE h5 hE0 hE1 hb0 hb1
  have e : (sgnL true ++ ([B 0] ++ [101] ++ [if true = true then 45 else 43] ++ xlB E)).map vb = [] ++ [bt 45] ++ [bt (nb B 0)] ++ [bt 101] ++ [bt 45] ++ (xlB E).map vb := by
    simp only [List.map_append, sgnL]
    simp [vb, bt, nb]
  rw [xlm_b E hE0 hE1] at e
  rw [e]
  exact h2
theorem pr_e1_neg_lo_c (B : Nat → UInt8)  (dp : Int) (E : Nat) (hE : dp - 1 = -(E : Int)) (h5 : 5 ≤ E) (hE0 : 100 ≤ E) (hE1 : E < 400) (hb0 : -400 ≤ dp) (hb1 : dp ≤ 400) : Prints true 1 dp B (sgnL true ++ ([B 0] ++ [101] ++ [if true = true then 45 else 43] ++ xlB E)) := fun db v w0 w h => by
  have h2 := fmt_e1_neg_lo_c db 32 32 (nb B) v [] w0 w h (by omega) (by omega) (by omega) (by decide) dp E hE h5 hE0 hE1 hb0 hb1
  have e : (sgnL true ++ ([B 0] ++ [101] ++ [if true = true then 45 else 43] ++ xlB E)).map vb = [] ++ [bt 45] ++ [bt (nb B 0)] ++ [bt 101] ++ [bt 45] ++ (xlB E).map vb := by
    simp only [List.map_append, sgnL]
    simp [vb, bt, nb]
  rw [xlm_c E hE0 hE1] at e
  rw [e]
  exact h2
theorem pr_em_hi_a (B : Nat → UInt8) (n nd : Nat) (hnn : n + 1 = nd) (hn0 : 0 < n) (hn1 : nd ≤ 18) (dp : Int) (E : Nat) (hE : dp - 1 = (E : Int)) (h5 : 6 ≤ E) (hE1 : E < 10) (hb0 : -400 ≤ dp) (hb1 : dp ≤ 400) : Prints false nd dp B (sgnL false ++ ([B 0] ++ [46] ++ ((List.range n).map fun t => B (1 + t)) ++ [101] ++ [if false = true then 45 else 43] ++ xlB E)) := fun db v w0 w h => by
  have h2 := fmt_em_hi_a db nd 32 32 (nb B) v [] w0 w h (by omega) (by omega) (by omega) (by decide) n hnn hn0 (by omega) dp E hE h5 hE1 hb0 hb1
  have e : (sgnL false ++ ([B 0] ++ [46] ++ ((List.range n).map fun t => B (1 + t)) ++ [101] ++ [if false = true then 45 else 43] ++ xlB E)).map vb = [] ++ [bt (nb B 0)] ++ [bt 46] ++ ((List.range n).map fun t => bt (nb B (1 + t))) ++ [bt 101] ++ [bt 43] ++ (xlB E).map vb := by
    simp only [List.map_append, sgnL, vb_map]
    simp [vb, bt, nb]
  rw [xlm_a E hE1] at e
  rw [e]
  exact h2
theorem pr_em_hi_b (B : Nat → UInt8) (n nd : Nat) (hnn : n + 1 = nd) (hn0 : 0 < n) (hn1 : nd ≤ 18) (dp : Int) (E : Nat) (hE : dp - 1 = (E : Int)) (h5 : 6 ≤ E) (hE0 : 10 ≤ E) (hE1 : E < 100) (hb0 : -400 ≤ dp) (hb1 : dp ≤ 400) : Prints false nd dp B (sgnL false ++ ([B 0] ++ [46] ++ ((List.range n).map fun t => B (1 + t)) ++ [101] ++ [if false = true then 45 else 43] ++ xlB E)) := fun db v w0 w h => by
  have h2 := fmt_em_hi_b db nd 32 32 (nb B) v [] w0 w h (by omega) (by omega) (by omega) (by decide) n hnn hn0 (by omega) dp E hE h5 hE0 hE1 hb0 hb1
  have e : (sgnL false ++ ([B 0] ++ [46] ++ ((List.range n).map fun t => B (1 + t)) ++ [101] ++ [if false = true then 45 else 43] ++ xlB E)).map vb = [] ++ [bt (nb B 0)] ++ [bt 46] ++ ((List.range n).map fun t => bt (nb B (1 + t))) ++ [bt 101] ++ [bt 43] ++ (xlB E).map vb := by
    simp only [List.map_append, sgnL, vb_map]
    simp [vb, bt, nb]
  rw [xlm_b E hE0 hE1] at e
  rw [e]
  exact h2
theorem pr_em_hi_c (B : Nat → UInt8) (n nd : Nat) (hnn : n + 1 = nd) (hn0 : 0 < n) (hn1 : nd ≤ 18) (dp : Int) (E : Nat) (hE : dp - 1 = (E : Int)) (h5 : 6 ≤ E) (hE0 : 100 ≤ E) (hE1 : E < 400) (hb0 : -400 ≤ dp) (hb1 : dp ≤ 400) : Prints false nd dp B (sgnL false ++ ([B 0] ++ [46] ++ ((List.range n).map fun t => B (1 + t)) ++ [101] ++ [if false = true then 45 else 43] ++ xlB E)) := fun db v w0 w h => by
  have h2 := fmt_em_hi_c db nd 32 32 (nb B) v [] w0 w h (by omega) (by omega) (by omega) (by decide) n hnn hn0 (by omega) dp E hE h5 hE0 hE1 hb0 hb1
  have e : (sgnL false ++ ([B 0] ++ [46] ++ ((List.range n).map fun t => B (1 + t)) ++ [101] ++ [if false = true then 45 else 43] ++ xlB E)).map vb = [] ++ [bt (nb B 0)] ++ [bt 46] ++ ((List.range n).map fun t => bt (nb B (1 + t))) ++ [bt 101] ++ [bt 43] ++ (xlB E).map vb := by
    simp only [List.map_append, sgnL, vb_map]
    simp [vb, bt, nb]
  rw [xlm_c E hE0 hE1] at e
  rw [e]
  exact h2
theorem pr_em_lo_a (B : Nat → UInt8) (n nd : Nat) (hnn : n + 1 = nd) (hn0 : 0 < n) (hn1 : nd ≤ 18) (dp : Int) (E : Nat) (hE : dp - 1 = -(E : Int)) (h5 : 5 ≤ E) (hE1 : E < 10) (hb0 : -400 ≤ dp) (hb1 : dp ≤ 400) : Prints false nd dp B (sgnL false ++ ([B 0] ++ [46] ++ ((List.range n).map fun t => B (1 + t)) ++ [101] ++ [if true = true then 45 else 43] ++ xlB E)) := fun db v w0 w h => by
  have h2 := fmt_em_lo_a db nd 32 32 (nb B) v [] w0 w h (by omega) (by omega) (by omega) (by decide) n hnn hn0 (by omega) dp E hE h5 hE1 hb0 hb1
  have e : (sgnL false ++ ([B 0] ++ [46] ++ ((List.range n).map fun t => B (1 + t)) ++ [101] ++ [if true = true then 45 else 43] ++ xlB E)).map vb = [] ++ [bt (nb B 0)] ++ [bt 46] ++ ((List.range n).map fun t => bt (nb B (1 + t))) ++ [bt 101] ++ [bt 45] ++ (xlB E).map vb := by
    simp only [List.map_append, sgnL, vb_map]
    simp [vb, bt, nb]
  rw [xlm_a E hE1] at e
  rw [e]
  exact h2
theorem pr_em_lo_b (B : Nat → UInt8) (n nd : Nat) (hnn : n + 1 = nd) (hn0 : 0 < n) (hn1 : nd ≤ 18) (dp : Int) (E : Nat) (hE : dp - 1 = -(E : Int)) (h5 : 5 ≤ E) (hE0 : 10 ≤ E) (hE1 : E < 100) (hb0 : -400 ≤ dp) (hb1 : dp ≤ 400) : Prints false nd dp B (sgnL false ++ ([B 0] ++ [46] ++ ((List.range n).map fun t => B (1 + t)) ++ [101] ++ [if true = true then 45 else 43] ++ xlB E)) := fun db v w0 w h => by
  have h2 := fmt_em_lo_b db nd 32 32 (nb B) v [] w0 w h (by omega) (by omega) (by omega) (by decide) n hnn hn0 (by omega) dp E hE h5 hE0 hE1 hb0 hb1
  have e : (sgnL false ++ ([B 0] ++ [46] ++ ((List.range n).map fun t => B (1 + t)) ++ [101] ++ [if true = true then 45 else 43] ++ xlB E)).map vb = [] ++ [bt (nb B 0)] ++ [bt 46] ++ ((List.range n).map fun t => bt (nb B (1 + t))) ++ [bt 101] ++ [bt 45] ++ (xlB E).map vb := by
    simp only [List.map_append, sgnL, vb_map]
    simp [vb, bt, nb]
  rw [xlm_b E hE0 hE1] at e
  rw [e]
  exact h2
theorem pr_em_lo_c (B : Nat → UInt8) (n nd : Nat) (hnn : n + 1 = nd) (hn0 : 0 < n) (hn1 : nd ≤ 18) (dp : Int) (E : Nat) (hE : dp - 1 = -(E : Int)) (h5 : 5 ≤ E) (hE0 : 100 ≤ E) (hE1 : E < 400) (hb0 : -400 ≤ dp) (hb1 : dp ≤ 400) : Prints false nd dp B (sgnL false ++ ([B 0] ++ [46] ++ ((List.range n).map fun t => B (1 + t)) ++ [101] ++ [if true = true then 45 else 43] ++ xlB E)) := fun db v w0 w h => by
  have h2 := fmt_em_lo_c db nd 32 32 (nb B) v [] w0 w h (by omega) (by omega) (by omega) (by decide) n hnn hn0 (by omega) dp E hE h5 hE0 hE1 hb0 hb1
  have e : (sgnL false ++ ([B 0] ++ [46] ++ ((List.range n).map fun t => B (1 + t)) ++ [101] ++ [if true = true then 45 else 43] ++ xlB E)).map vb = [] ++ [bt (nb B 0)] ++ [bt 46] ++ ((List.range n).map fun t => bt (nb B (1 + t))) ++ [bt 101] ++ [bt 45] ++ (xlB E).map vb := by
    simp only [List.map_append, sgnL, vb_map]
    simp [vb, bt, nb]
  rw [xlm_c E hE0 hE1] at e
  rw [e]
  exact h2
theorem pr_em_neg_hi_a (B : Nat → UInt8) (n nd : Nat) (hnn : n + 1 = nd) (hn0 : 0 < n) (hn1 : nd ≤ 18) (dp : Int) (E : Nat) (hE : dp - 1 = (E : Int)) (h5 : 6 ≤ E) (hE1 : E < 10) (hb0 : -400 ≤ dp) (hb1 : dp ≤ 400) : Prints true nd dp B (sgnL true ++ ([B 0] ++ [46] ++ ((List.range n).map fun t => B (1 + t)) ++ [101] ++ [if false = true then 45 else 43] ++ xlB E)) := fun db v w0 w h => by
  have h2 := fmt_em_neg_hi_a db nd 32 32 (nb B) v [] w0 w h (by omega) (by omega) (by omega) (by decide) n hnn hn0 (by omega) dp E hE h5 hE1 hb0 hb1
  have e : (sgnL true ++ ([B 0] ++ [46] ++ ((List.range n).map fun t => B (1 + t)) ++ [101] ++ [if false = true then 45 else 43] ++ xlB E)).map vb = [] ++ [bt 45] ++ [bt (nb B 0)] ++ [bt 46] ++ ((List.range n).map fun t => bt (nb B (1 + t))) ++ [bt 101] ++ [bt 43] ++ (xlB E).map vb := by
    simp only [List.map_append, sgnL, vb_map]
    simp [vb, bt, nb]
  rw [xlm_a E hE1] at e
  rw [e]
  exact h2
theorem pr_em_neg_hi_b (B : Nat → UInt8) (n nd : Nat) (hnn : n + 1 = nd) (hn0 : 0 < n) (hn1 : nd ≤ 18) (dp : Int) (E : Nat) (hE : dp - 1 = (E : Int)) (h5 : 6 ≤ E) (hE0 : 10 ≤ E) (hE1 : E < 100) (hb0 : -400 ≤ dp) (hb1 : dp ≤ 400) : Prints true nd dp B (sgnL true ++ ([B 0] ++ [46] ++ ((List.range n).map fun t => B (1 + t)) ++ [101] ++ [if false = true then 45 else 43] ++ xlB E)) := fun db v w0 w h => by
  have h2 := fmt_em_neg_hi_b db nd 32 32 (nb B) v [] w0 w h (by omega) (by omega) (by omega) (by decide) n hnn hn0 (by omega) dp E hE h5 hE0 hE1 hb0 hb1
  have e : (sgnL true ++ ([B 0] ++ [46] ++ ((List.range n).map fun t => B (1 + t)) ++ [101] ++ [if false = true then 45 else 43] ++ xlB E)).map vb = [] ++ [bt 45] ++ [bt (nb B 0)] ++ [bt 46] ++ ((List.range n).map fun t => bt (nb B (1 + t))) ++ [bt 101] ++ [bt 43] ++ (xlB E).map vb := by
    simp only [List.map_append, sgnL, vb_map]
    simp [vb, bt, nb]
  rw [xlm_b E hE0 hE1] at e
  rw [e]
  exact h2
theorem pr_em_neg_hi_c (B : Nat → UInt8) (n nd : Nat) (hnn : n + 1 = nd) (hn0 : 0 < n) (hn1 : nd ≤ 18) (dp : Int) (E : Nat) (hE : dp - 1 = (E : Int)) (h5 : 6 ≤ E) (hE0 : 100 ≤ E) (hE1 : E < 400) (hb0 : -400 ≤ dp) (hb1 : dp ≤ 400) : Prints true nd dp B (sgnL true ++ ([B 0] ++ [46] ++ ((List.range n).map fun t => B (1 + t)) ++ [101] ++ [if false = true then 45 else 43] ++ xlB E)) := fun db v w0 w h => by
  have h2 := fmt_em_neg_hi_c db nd 32 32 (nb B) v [] w0 w h (by omega) (by omega) (by omega) (by decide) n hnn hn0 (by omega) dp E hE h5 hE0 hE1 hb0 hb1
  have e : (sgnL true ++ ([B 0] ++ [46] ++ ((List.range n).map fun t => B (1 + t)) ++ [101] ++ [if false = true then 45 else 43] ++ xlB E)).map vb = [] ++ [bt 45] ++ [bt (nb B 0)] ++ [bt 46] ++ ((List.range n).map fun t => bt (nb B (1 + t))) ++ [bt 101] ++ [bt 43] ++ (xlB E).map vb := by
    simp only [List.map_append, sgnL, vb_map]
    simp [vb, bt, nb]
  rw [xlm_c E hE0 hE1] at e
  rw [e]
  exact h2
theorem pr_em_neg_lo_a (B : Nat → UInt8) (n nd : Nat) (hnn : n + 1 = nd) (hn0 : 0 < n) (hn1 : nd ≤ 18) (dp : Int) (E : Nat) (hE : dp - 1 = -(E : Int)) (h5 : 5 ≤ E) (hE1 : E < 10) (hb0 : -400 ≤ dp) (hb1 : dp ≤ 400) : Prints true nd dp B (sgnL true ++ ([B 0] ++ [46] ++ ((List.range n).map fun t => B (1 + t)) ++ [101] ++ [if true = true then 45 else 43] ++ xlB E)) := fun db v w0 w h => by
  have h2 := fmt_em_neg_lo_a db nd 32 32 (nb B) v [] w0 w h (by omega) (by omega) (by omega) (by decide) n hnn hn0 (by omega) dp E hE h5 hE1 hb0 hb1
  have e : (sgnL true ++ ([B 0] ++ [46] ++ ((List.range n).map fun t => B (1 + t)) ++ [101] ++ [if true = true then 45 else 43] ++ xlB E)).map vb = [] ++ [bt 45] ++ [bt (nb B 0)] ++ [bt 46] ++ ((List.range n).map fun t => bt (nb B (1 + t))) ++ [bt 101] ++ [bt 45] ++ (xlB E).map vb := by
    simp only [List.map_append, sgnL, vb_map]
    simp [vb, bt, nb]
  rw [xlm_a E hE1] at e
  rw [e]
  exact h2
theorem pr_em_neg_lo_b (B : Nat → UInt8) (n nd : Nat) (hnn : n + 1 = nd) (hn0 : 0 < n) (hn1 : nd ≤ 18) (dp : Int) (E : Nat) (hE : dp - 1 = -(E : Int)) (h5 : 5 ≤ E) (hE0 : 10 ≤ E) (hE1 : E < 100) (hb0 : -400 ≤ dp) (hb1 : dp ≤ 400) : Prints true nd dp B (sgnL true ++ ([B 0] ++ [46] ++ ((List.range n).map fun t => B (1 + t)) ++ [101] ++ [if true = true then 45 else 43] ++ xlB E)) := fun db v w0 w h => by
  have h2 := fmt_em_neg_lo_b db nd 32 32 (nb B) v [] w0 w h (by omega) (by omega) (by omega) (by decide) n hnn hn0 (by omega) dp E hE h5 hE0 hE1 hb0 hb1
  have e : (sgnL true ++ ([B 0] ++ [46] ++ ((List.range n).map fun t => B (1 + t)) ++ [101] ++ [if true = true then 45 else 43] ++ xlB E)).map vb = [] ++ [bt 45] ++ [bt (nb B 0)] ++ [bt 46] ++ ((List.range n).map fun t => bt (nb B (1 + t))) ++ [bt 101] ++ [bt 45] ++ (xlB E).map vb := by
    simp only [List.map_append, sgnL, vb_map]
    simp [vb, bt, nb]
  rw [xlm_b E hE0 hE1] at e
  rw [e]
  exact h2
theorem pr_em_neg_lo_c (B : Nat → UInt8) (n nd : Nat) (hnn : n + 1 = nd) (hn0 : 0 < n) (hn1 : nd ≤ 18) (dp : Int) (E : Nat) (hE : dp - 1 = -(E : Int)) (h5 : 5 ≤ E) (hE0 : 100 ≤ E) (hE1 : E < 400) (hb0 : -400 ≤ dp) (hb1 : dp ≤ 400) : Prints true nd dp B (sgnL true ++ ([B 0] ++ [46] ++ ((List.range n).map fun t => B (1 + t)) ++ [101] ++ [if true = true then 45 else 43] ++ xlB E)) := fun db v w0 w h => by
  have h2 := fmt_em_neg_lo_c db nd 32 32 (nb B) v [] w0 w h (by omega) (by omega) (by omega) (by decide) n hnn hn0 (by omega) dp E hE h5 hE0 hE1 hb0 hb1
  have e : (sgnL true ++ ([B 0] ++ [46] ++ ((List.range n).map fun t => B (1 + t)) ++ [101] ++ [if true = true then 45 else 43] ++ xlB E)).map vb = [] ++ [bt 45] ++ [bt (nb B 0)] ++ [bt 46] ++ ((List.range n).map fun t => bt (nb B (1 + t))) ++ [bt 101] ++ [bt 45] ++ (xlB E).map vb := by
    simp only [List.map_append, sgnL, vb_map]
    simp [vb, bt, nb]
  rw [xlm_c E hE0 hE1] at e
  rw [e]
  exact h2
/-- fmtEFG at 'g': a text, and what it is read as. -/
theorem g_text (neg : Bool) (nd : Nat) (dp : Int) (B : Nat → UInt8) (hnd : 0 < nd) (hn : nd ≤ 18) (hd : DigL (nb B) nd) (hB : (B 0).toNat ≠ 48) (hlt : dval (nb B) nd < 144115188075855872) (hb0 : -390 ≤ dp) (hb1 : dp ≤ 390) :
    ∃ out : List UInt8, Prints neg nd dp B out ∧ Reads out neg ((dval (nb B) nd : Rat) * (10 : Rat) ^ (dp - nd)) := by
  rcases (by omega : (1 ≤ dp ∧ dp ≤ 6 ∧ (nd : Int) ≤ dp) ∨ (1 ≤ dp ∧ dp ≤ 6 ∧ dp < (nd : Int)) ∨ (-3 ≤ dp ∧ dp ≤ 0) ∨ 7 ≤ dp ∨ dp ≤ -4) with ⟨h1, h2, h3⟩ | ⟨h1, h2, h3⟩ | ⟨h1, h2⟩ | h1 | h1
  · obtain ⟨Z, hZ⟩ : ∃ Z : Nat, dp = nd + Z := ⟨(dp - nd).toNat, by omega⟩
    have hr := reads_pn neg B nd Z hnd hd hB (by omega)
    have e : dp - nd = (Z : Int) := by omega
    rw [e]
    cases neg
    · exact ⟨_, pr_pn B nd Z dp hnd hZ (by omega), hr⟩
    · exact ⟨_, pr_pn_neg B nd Z dp hnd hZ (by omega), hr⟩
  · obtain ⟨a, rfl⟩ : ∃ a : Nat, dp = a := ⟨dp.toNat, by omega⟩
    obtain ⟨b, hb⟩ : ∃ b : Nat, nd = a + b := ⟨nd - a, by omega⟩
    have hr := reads_pp neg B a b nd (by omega) hnd hb hd hB hn hlt
    have e : (a : Int) - nd = -(b : Int) := by omega
    rw [e]
    cases neg
    · exact ⟨_, pr_pp B a b nd (by omega) (by omega) (by omega) hb hn, hr⟩
    · exact ⟨_, pr_pp_neg B a b nd (by omega) (by omega) (by omega) hb hn, hr⟩
  · obtain ⟨Z, hZ⟩ : ∃ Z : Nat, dp = -(Z : Int) := ⟨(-dp).toNat, by omega⟩
    have hr := reads_np neg B Z nd (by omega) hnd hd hB hn hlt
    have e : dp - nd = -(Z : Int) - nd := by omega
    rw [e]
    cases neg
    · exact ⟨_, pr_np B Z nd dp hZ (by omega) hnd hn, hr⟩
    · exact ⟨_, pr_np_neg B Z nd dp hZ (by omega) hnd hn, hr⟩
  · obtain ⟨E, hE⟩ : ∃ E : Nat, dp - 1 = (E : Int) := ⟨(dp - 1).toNat, by omega⟩
    rcases (by omega : nd = 1 ∨ 2 ≤ nd) with hnd1 | hnd2
    · have hr := reads_e1 neg false B E nd hnd1 hnd (by omega) hd hB
      have e : dp - nd = (if false = true then -(E : Int) else (E : Int)) := by rw [if_neg (by decide)]; omega
      rw [e]
      subst hnd1
      rcases (by omega : E < 10 ∨ (10 ≤ E ∧ E < 100) ∨ (100 ≤ E ∧ E < 400)) with g | ⟨g0, g⟩ | ⟨g0, g⟩
      · cases neg
        · exact ⟨_, pr_e1_hi_a B dp E hE (by omega) g (by omega) (by omega), hr⟩
        · exact ⟨_, pr_e1_neg_hi_a B dp E hE (by omega) g (by omega) (by omega), hr⟩
      · cases neg
        · exact ⟨_, pr_e1_hi_b B dp E hE (by omega) g0 g (by omega) (by omega), hr⟩
        · exact ⟨_, pr_e1_neg_hi_b B dp E hE (by omega) g0 g (by omega) (by omega), hr⟩
      · cases neg
        · exact ⟨_, pr_e1_hi_c B dp E hE (by omega) g0 g (by omega) (by omega), hr⟩
        · exact ⟨_, pr_e1_neg_hi_c B dp E hE (by omega) g0 g (by omega) (by omega), hr⟩
    · obtain ⟨n, hn1⟩ : ∃ n : Nat, n + 1 = nd := ⟨nd - 1, by omega⟩
      have hr := reads_em neg false B E n nd (by omega) hnd (by omega) hd hB hn hlt
      have e : dp - nd = (if false = true then -(E : Int) else (E : Int)) - n := by rw [if_neg (by decide)]; omega
      rw [e]
      rcases (by omega : E < 10 ∨ (10 ≤ E ∧ E < 100) ∨ (100 ≤ E ∧ E < 400)) with g | ⟨g0, g⟩ | ⟨g0, g⟩
      · cases neg
        · exact ⟨_, pr_em_hi_a B n nd hn1 (by omega) hn dp E hE (by omega) g (by omega) (by omega), hr⟩
        · exact ⟨_, pr_em_neg_hi_a B n nd hn1 (by omega) hn dp E hE (by omega) g (by omega) (by omega), hr⟩
      · cases neg
        · exact ⟨_, pr_em_hi_b B n nd hn1 (by omega) hn dp E hE (by omega) g0 g (by omega) (by omega), hr⟩
        · exact ⟨_, pr_em_neg_hi_b B n nd hn1 (by omega) hn dp E hE (by omega) g0 g (by omega) (by omega), hr⟩
      · cases neg
        · exact ⟨_, pr_em_hi_c B n nd hn1 (by omega) hn dp E hE (by omega) g0 g (by omega) (by omega), hr⟩
        · exact ⟨_, pr_em_neg_hi_c B n nd hn1 (by omega) hn dp E hE (by omega) g0 g (by omega) (by omega), hr⟩
  · obtain ⟨E, hE⟩ : ∃ E : Nat, dp - 1 = -(E : Int) := ⟨(1 - dp).toNat, by omega⟩
    rcases (by omega : nd = 1 ∨ 2 ≤ nd) with hnd1 | hnd2
    · have hr := reads_e1 neg true B E nd hnd1 hnd (by omega) hd hB
      have e : dp - nd = (if true = true then -(E : Int) else (E : Int)) := by rw [if_pos rfl]; omega
      rw [e]
      subst hnd1
      rcases (by omega : E < 10 ∨ (10 ≤ E ∧ E < 100) ∨ (100 ≤ E ∧ E < 400)) with g | ⟨g0, g⟩ | ⟨g0, g⟩
      · cases neg
        · exact ⟨_, pr_e1_lo_a B dp E hE (by omega) g (by omega) (by omega), hr⟩
        · exact ⟨_, pr_e1_neg_lo_a B dp E hE (by omega) g (by omega) (by omega), hr⟩
      · cases neg
        · exact ⟨_, pr_e1_lo_b B dp E hE (by omega) g0 g (by omega) (by omega), hr⟩
        · exact ⟨_, pr_e1_neg_lo_b B dp E hE (by omega) g0 g (by omega) (by omega), hr⟩
      · cases neg
        · exact ⟨_, pr_e1_lo_c B dp E hE (by omega) g0 g (by omega) (by omega), hr⟩
        · exact ⟨_, pr_e1_neg_lo_c B dp E hE (by omega) g0 g (by omega) (by omega), hr⟩
    · obtain ⟨n, hn1⟩ : ∃ n : Nat, n + 1 = nd := ⟨nd - 1, by omega⟩
      have hr := reads_em neg true B E n nd (by omega) hnd (by omega) hd hB hn hlt
      have e : dp - nd = (if true = true then -(E : Int) else (E : Int)) - n := by rw [if_pos rfl]; omega
      rw [e]
      rcases (by omega : E < 10 ∨ (10 ≤ E ∧ E < 100) ∨ (100 ≤ E ∧ E < 400)) with g | ⟨g0, g⟩ | ⟨g0, g⟩
      · cases neg
        · exact ⟨_, pr_em_lo_a B n nd hn1 (by omega) hn dp E hE (by omega) g (by omega) (by omega), hr⟩
        · exact ⟨_, pr_em_neg_lo_a B n nd hn1 (by omega) hn dp E hE (by omega) g (by omega) (by omega), hr⟩
      · cases neg
        · exact ⟨_, pr_em_lo_b B n nd hn1 (by omega) hn dp E hE (by omega) g0 g (by omega) (by omega), hr⟩
        · exact ⟨_, pr_em_neg_lo_b B n nd hn1 (by omega) hn dp E hE (by omega) g0 g (by omega) (by omega), hr⟩
      · cases neg
        · exact ⟨_, pr_em_lo_c B n nd hn1 (by omega) hn dp E hE (by omega) g0 g (by omega) (by omega), hr⟩
        · exact ⟨_, pr_em_neg_lo_c B n nd hn1 (by omega) hn dp E hE (by omega) g0 g (by omega) (by omega), hr⟩
end Go.Proofs.YtnggkkdcddpjlaaGreatDoor
