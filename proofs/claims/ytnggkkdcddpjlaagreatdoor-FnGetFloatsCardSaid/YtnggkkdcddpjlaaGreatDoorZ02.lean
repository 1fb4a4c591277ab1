/- Loops told by their rounds: where a state that a loop's round turns comes to at last. internal/strconv.readFloat: what it answers, told by its rounds. A scope out of which the run jumps forward to labels, so many times at most. -/
import Derived.Test.YtnggkkdcddpjlaaGreatDoorZ01
import Derived.WalkMore
import Derived.Deep.DeepCutAuto
import Derived.Deep.CutBlock
namespace Go.Proofs.YtnggkkdcddpjlaaGreatDoor
open Go.RowKit
set_option linter.unusedVariables false
/-- 'step x = none': the loop is left at x. -/
inductive Ends {σ : Type} (step : σ → Option σ) : σ → σ → Prop
  | stop {x : σ} (h : step x = none) : Ends step x x
  | go {x y z : σ} (h : step x = some y) (k : Ends step y z) : Ends step x z
theorem Ends.next {σ : Type} {step : σ → Option σ} {x y z : σ} (h : Ends step x z) (hs : step x = some y) : Ends step y z := by
  cases h with
  | stop h => rw [h] at hs; cases hs
  | go h k => rw [h] at hs; cases hs; exact k
theorem Ends.done {σ : Type} {step : σ → Option σ} {x z : σ} (h : Ends step x z) (hs : step x = none) : z = x := by
  cases h with
  | stop h => rfl
  | go h k => rw [h] at hs; cases hs
theorem ends_some {σ : Type} {step : σ → Option σ} (I : σ → Prop) (μ : σ → Nat) (hp : ∀ x y, I x → step x = some y → I y ∧ μ y < μ x) : ∀ (n : Nat) (x : σ), μ x ≤ n → I x → ∃ z, Ends step x z ∧ I z ∧ step z = none
  | n, x, hn, hI => by
    cases hs : step x with
    | none => exact ⟨x, .stop hs, hI, hs⟩
    | some y =>
      obtain ⟨h1, h2⟩ := hp x y hI hs
      match n, hn with
      | 0, hn => omega
      | n + 1, hn =>
        obtain ⟨z, hz, h3, h4⟩ := ends_some I μ hp n y (by omega) h1
        exact ⟨z, .go hs hz, h3, h4⟩
/-- What the loop comes to within n rounds. -/
def runL {σ : Type} (step : σ → Option σ) : Nat → σ → σ
  | 0, x => x
  | n + 1, x => match step x with
    | none => x
    | some y => runL step n y
theorem runL_ends {σ : Type} {step : σ → Option σ} (I : σ → Prop) (μ : σ → Nat) (hp : ∀ x y, I x → step x = some y → I y ∧ μ y < μ x) : ∀ (n : Nat) (x : σ), μ x ≤ n → I x → Ends step x (runL step n x) ∧ I (runL step n x) ∧ step (runL step n x) = none
  | 0, x, hn, hI => by
    cases hs : step x with
    | none => exact ⟨.stop hs, hI, hs⟩
    | some y => have := (hp x y hI hs).2; omega
  | n + 1, x, hn, hI => by
    cases hs : step x with
    | none =>
      have e : runL step (n + 1) x = x := by unfold runL; rw [hs]
      rw [e]
      exact ⟨.stop hs, hI, hs⟩
    | some y =>
      obtain ⟨h1, h2⟩ := hp x y hI hs
      have e : runL step (n + 1) x = runL step n y := by rw [runL, hs]
      rw [e]
      obtain ⟨a, b, c⟩ := runL_ends I μ hp n y (by omega) h1
      exact ⟨.go hs a, b, c⟩
/-- A byte of a string. -/
def byt (s : ByteArray) (k : Nat) : Int := if h : k < s.size then ((s[k]'h).toNat : Int) else 0
theorem byt_at {s : ByteArray} {k : Nat} (h : k < s.size) : ((s[k]'h).toNat : Int) = byt s k := by unfold byt; rw [dif_pos h]
theorem byt_in (s : ByteArray) (k : Nat) : 0 ≤ byt s k ∧ byt s k ≤ 255 := by
  unfold byt
  split
  · rename_i h
    have := (s[k]'h).toNat_lt
    omega
  · omega
end Go.Proofs.YtnggkkdcddpjlaaGreatDoor
namespace Go.Proofs.YtnggkkdcddpjlaaGreatDoor
open Go.RowKit
set_option maxRecDepth 100000
set_option linter.unusedVariables false
set_option linter.unusedSimpArgs false
structure RF where
  i : Nat
  m : Int
  nd : Int
  nm : Int
  dp : Int
  us : Bool
  sd : Bool
  sg : Bool
  tr : Bool
def low (c : Int) : Int := bits .or .u8 c 32
/-- A round of readFloat's first loop. -/
def rfStep (hex : Bool) (B M : Int) (s : ByteArray) (x : RF) : Option RF :=
  if x.i < s.size then
    if byt s x.i = 95 then some { x with i := x.i + 1, us := true }
    else if byt s x.i = 46 then (if x.sd = true then none else some { x with i := x.i + 1, sd := true, dp := x.nd })
    else if 48 ≤ byt s x.i ∧ byt s x.i ≤ 57 then
      (if byt s x.i = 48 ∧ x.nd = 0 then some { x with i := x.i + 1, sg := true, dp := x.dp - 1 }
      else if x.nm < M then some { x with i := x.i + 1, sg := true, nd := x.nd + 1, m := IntKind.u64.wrap (IntKind.u64.wrap (x.m * B) + (byt s x.i - 48)), nm := x.nm + 1 }
      else if byt s x.i = 48 then some { x with i := x.i + 1, sg := true, nd := x.nd + 1 }
      else some { x with i := x.i + 1, sg := true, nd := x.nd + 1, tr := true })
    else if hex = true ∧ 97 ≤ low (byt s x.i) ∧ low (byt s x.i) ≤ 102 then
      (if x.nm < M then some { x with i := x.i + 1, sg := true, nd := x.nd + 1, m := IntKind.u64.wrap (IntKind.u64.wrap (x.m * 16) + (low (byt s x.i) - 97 + 10)), nm := x.nm + 1 }
      else some { x with i := x.i + 1, sg := true, nd := x.nd + 1, tr := true })
    else none
  else none
structure RFI (s : ByteArray) (x : RF) : Prop where
  i : x.i ≤ s.size
  m0 : 0 ≤ x.m
  m1 : x.m < 18446744073709551616
  nd0 : 0 ≤ x.nd
  nd1 : x.nd ≤ x.i
  nm0 : 0 ≤ x.nm
  nm1 : x.nm ≤ 19
  dp0 : -(x.i : Int) ≤ x.dp
  dp1 : x.dp ≤ x.i
theorem rf_at {hex : Bool} {B M : Int} {s : ByteArray} {k : Nat} {m nd nm dp : Int} {us sd sg tr : Bool} (hk : k < s.size) (c : Int) (hc : byt s k = c) : rfStep hex B M s ⟨k, m, nd, nm, dp, us, sd, sg, tr⟩ =
    if c = 95 then some ⟨k + 1, m, nd, nm, dp, true, sd, sg, tr⟩
    else if c = 46 then (if sd = true then none else some ⟨k + 1, m, nd, nm, nd, us, true, sg, tr⟩)
    else if 48 ≤ c ∧ c ≤ 57 then
      (if c = 48 ∧ nd = 0 then some ⟨k + 1, m, nd, nm, dp - 1, us, sd, true, tr⟩
      else if nm < M then some ⟨k + 1, IntKind.u64.wrap (IntKind.u64.wrap (m * B) + (c - 48)), nd + 1, nm + 1, dp, us, sd, true, tr⟩
      else if c = 48 then some ⟨k + 1, m, nd + 1, nm, dp, us, sd, true, tr⟩
      else some ⟨k + 1, m, nd + 1, nm, dp, us, sd, true, true⟩)
    else if hex = true ∧ 97 ≤ low c ∧ low c ≤ 102 then
      (if nm < M then some ⟨k + 1, IntKind.u64.wrap (IntKind.u64.wrap (m * 16) + (low c - 97 + 10)), nd + 1, nm + 1, dp, us, sd, true, tr⟩
      else some ⟨k + 1, m, nd + 1, nm, dp, us, sd, true, true⟩)
    else none := by
  unfold rfStep
  rw [if_pos hk]
  dsimp only
  rw [hc]
theorem rf_out {hex : Bool} {B M : Int} {s : ByteArray} {k : Nat} {m nd nm dp : Int} {us sd sg tr : Bool} (hk : ¬ k < s.size) : rfStep hex B M s ⟨k, m, nd, nm, dp, us, sd, sg, tr⟩ = none := by
  unfold rfStep
  rw [if_neg hk]
theorem u64_in (z : Int) : 0 ≤ IntKind.u64.wrap z ∧ IntKind.u64.wrap z < 18446744073709551616 := by rw [IntKind.wrap_u64]; omega
theorem rf_keep (hex : Bool) (B M : Int) (hM : M ≤ 19) (s : ByteArray) (x y : RF) (h : RFI s x) (hs : rfStep hex B M s x = some y) : RFI s y ∧ s.size - y.i < s.size - x.i := by
  obtain ⟨a1, a2, a3, a4, a5, a6, a7, a8, a9⟩ := h
  unfold rfStep at hs
  have hu := u64_in
  split at hs
  · rename_i hi
    (repeat' split at hs) <;> first | (cases hs; done) | (simp only [Option.some.injEq] at hs; subst hs; refine ⟨⟨?_, ?_, ?_, ?_, ?_, ?_, ?_, ?_, ?_⟩, ?_⟩ <;> dsimp only <;> first | omega | exact (hu _).1 | exact (hu _).2)
  · cases hs
/-- The sign, and the prefix 0x. -/
def rfSign (s : ByteArray) : Bool := byt s 0 == 45
def rfI1 (s : ByteArray) : Nat := if byt s 0 = 43 then 1 else if byt s 0 = 45 then 1 else 0
def rfHex (s : ByteArray) : Bool := decide ((rfI1 s + 2 < s.size ∧ byt s (rfI1 s) = 48) ∧ low (byt s (rfI1 s + 1)) = 120)
/-- A round of readFloat's second loop. -/
structure RE where
  k : Nat
  e : Int
  us : Bool
def reStep (s : ByteArray) (x : RE) : Option RE :=
  if x.k < s.size then
    if byt s x.k = 95 then some ⟨x.k + 1, x.e, true⟩
    else if 48 ≤ byt s x.k ∧ byt s x.k ≤ 57 then (if x.e < 10000 then some ⟨x.k + 1, x.e * 10 + byt s x.k - 48, x.us⟩ else some ⟨x.k + 1, x.e, x.us⟩)
    else none
  else none
structure REI (s : ByteArray) (x : RE) : Prop where
  k : x.k ≤ s.size
  e0 : 0 ≤ x.e
  e1 : x.e ≤ 100000
theorem re_keep (s : ByteArray) (x y : RE) (h : REI s x) (hs : reStep s x = some y) : REI s y ∧ s.size - y.k < s.size - x.k := by
  obtain ⟨a1, a2, a3⟩ := h
  unfold reStep at hs
  have hb := byt_in s x.k
  split at hs
  · rename_i hi
    (repeat' split at hs) <;> first | (cases hs; done) | (simp only [Option.some.injEq] at hs; subst hs; refine ⟨⟨?_, ?_, ?_⟩, ?_⟩ <;> dsimp only <;> omega)
  · cases hs
theorem re_at {s : ByteArray} {k : Nat} {e : Int} {us : Bool} (hk : k < s.size) (c : Int) (hc : byt s k = c) : reStep s ⟨k, e, us⟩ =
    if c = 95 then some ⟨k + 1, e, true⟩ else if 48 ≤ c ∧ c ≤ 57 then (if e < 10000 then some ⟨k + 1, e * 10 + c - 48, us⟩ else some ⟨k + 1, e, us⟩) else none := by
  unfold reStep
  rw [if_pos hk]
  dsimp only
  rw [hc]
theorem re_out {s : ByteArray} {k : Nat} {e : Int} {us : Bool} (hk : ¬ k < s.size) : reStep s ⟨k, e, us⟩ = none := by
  unfold reStep
  rw [if_neg hk]
/-- The exponent: whether the text goes on well, where it is then, the point's place, whether underscores came. -/
structure RX where
  ok : Bool
  n : Nat
  dp : Int
  us : Bool
def rxJ (s : ByteArray) (i : Nat) : Nat := if byt s (i + 1) = 43 then i + 2 else if byt s (i + 1) = 45 then i + 2 else i + 1
def rfExp (hex : Bool) (s : ByteArray) (i : Nat) (dp : Int) (us : Bool) : RX :=
  if i < s.size ∧ low (byt s i) = (if hex = true then 112 else 101) then
    if i + 1 < s.size then
      (if rxJ s i < s.size ∧ 48 ≤ byt s (rxJ s i) ∧ byt s (rxJ s i) ≤ 57 then
        ⟨true, (runL (reStep s) s.size ⟨rxJ s i, 0, us⟩).k, dp + (if byt s (i + 1) = 45 then -(runL (reStep s) s.size ⟨rxJ s i, 0, us⟩).e else (runL (reStep s) s.size ⟨rxJ s i, 0, us⟩).e), (runL (reStep s) s.size ⟨rxJ s i, 0, us⟩).us⟩
      else ⟨false, rxJ s i, dp, us⟩)
    else ⟨false, i + 1, dp, us⟩
  else ⟨!hex, i, dp, us⟩
/-- What readFloat answers, behind its first loop. -/
structure RO where
  m : Int
  p : Int
  tr : Bool
  n : Nat
  ok : Bool
def rfFin (hex : Bool) (U : ByteArray → Bool) (s : ByteArray) (x : RF) : RO :=
  if x.sg = true then
    (if (rfExp hex s x.i ((if hex = true then 4 else 1) * (if x.sd = true then x.dp else x.nd)) x.us).ok = true then
      ⟨x.m, if x.m = 0 then 0 else (rfExp hex s x.i ((if hex = true then 4 else 1) * (if x.sd = true then x.dp else x.nd)) x.us).dp - (if hex = true then 4 else 1) * x.nm, x.tr, (rfExp hex s x.i ((if hex = true then 4 else 1) * (if x.sd = true then x.dp else x.nd)) x.us).n,
        !((rfExp hex s x.i ((if hex = true then 4 else 1) * (if x.sd = true then x.dp else x.nd)) x.us).us && !U (s.extract 0 (rfExp hex s x.i ((if hex = true then 4 else 1) * (if x.sd = true then x.dp else x.nd)) x.us).n))⟩
    else ⟨x.m, 0, x.tr, (rfExp hex s x.i ((if hex = true then 4 else 1) * (if x.sd = true then x.dp else x.nd)) x.us).n, false⟩)
  else ⟨x.m, 0, x.tr, x.i, false⟩
def rfVal (ng hx : Bool) (r : RO) : Value := .tuple #[.int .u64 r.m, .int .i64 r.p, .bool ng, .bool r.tr, .bool hx, .int .i64 r.n, .bool r.ok]
def rfStart (i : Nat) : RF := ⟨i, 0, 0, 0, 0, false, false, false, false⟩
/-- What underscoreOK is to answer. -/
def Under (U : ByteArray → Bool) : Prop := ∀ t : ByteArray, (t.size : Int) ≤ 1000000 → ∀ w, Calls Tryz.prog 215 #[.string t] w fun e w' => e = .returned (.bool (U t)) ∧ w' = w
theorem low_in (c : Int) : 0 ≤ low c ∧ low c ≤ 255 := by
  have h : ∀ z : Int, 0 ≤ IntKind.u8.wrap z ∧ IntKind.u8.wrap z ≤ 255 := fun z => by rw [IntKind.wrap_u8]; omega
  exact h _
end Go.Proofs.YtnggkkdcddpjlaaGreatDoor
namespace Go.Proofs.YtnggkkdcddpjlaaGreatDoor
open Go Go.RowKit
set_option linter.unusedVariables false
/-- As Q; by a goto: what stands behind the label, n times at most. -/
def scopedQ (P : Program) (c : Code) (Q : Exit → Act → World → Prop) : Nat → Exit → Act → World → Prop
  | 0, .goto _, _, _ => False
  | n + 1, .goto l, a, w => ∃ rest, findLabel c l = some rest ∧ rest.wp P (scopedQ P c Q n) a w
  | _, e, a, w => Q e a w
theorem scopedQ_ret {P : Program} {c : Code} {Q : Exit → Act → World → Prop} (n : Nat) (a : Act) (w : World) : scopedQ P c Q n .ret a w = Q .ret a w := by cases n <;> rfl
theorem scoped_key {P : Program} {c : Code} {Q : Exit → Act → World → Prop} (b : Frame) (k : List Item) (cs : List Frame) : ∀ (n : Nat) (code : Code) (a : Act) (w : World), code.wp P (scopedQ P c Q n) a w →
    ∃ e a' w', Q e a' w' ∧ Arrives P (lone (b.at a (.code code :: .inScope c :: k)) cs w) b k cs e a' w' := by
  intro n
  induction n with
  | zero =>
    intro code a w h
    obtain ⟨e, a₁, w₁, hq, harr⟩ := h b (.inScope c :: k) cs
    cases e with
    | normal => exact ⟨.normal, a₁, w₁, hq, Steps.trans harr (.one step_inScope)⟩
    | exit id => exact ⟨.exit id, a₁, w₁, hq, fun k' hk => harr k' (by simp [exitTo, hk])⟩
    | goto l => exact False.elim hq
    | ret => exact ⟨_, a₁, w₁, hq, harr⟩
    | panic ch => exact ⟨_, a₁, w₁, hq, harr⟩
    | outgrown => exact ⟨_, a₁, w₁, hq, harr⟩
  | succ n ih =>
    intro code a w h
    obtain ⟨e, a₁, w₁, hq, harr⟩ := h b (.inScope c :: k) cs
    cases e with
    | normal => exact ⟨.normal, a₁, w₁, hq, Steps.trans harr (.one step_inScope)⟩
    | exit id => exact ⟨.exit id, a₁, w₁, hq, fun k' hk => harr k' (by simp [exitTo, hk])⟩
    | goto l =>
      obtain ⟨rest, hf, hr⟩ := hq
      obtain ⟨e₂, a₂, w₂, hq₂, harr₂⟩ := ih rest a₁ w₁ hr
      have hg : gotoIn l (.inScope c :: k) = some (.code rest :: .inScope c :: k) := by simp [gotoIn, hf]
      exact ⟨e₂, a₂, w₂, hq₂, .of_steps (harr _ hg) harr₂⟩
    | ret => exact ⟨_, a₁, w₁, hq, harr⟩
    | panic ch => exact ⟨_, a₁, w₁, hq, harr⟩
    | outgrown => exact ⟨_, a₁, w₁, hq, harr⟩
theorem wp_scope_some {P : Program} {c : Code} {Q : Exit → Act → World → Prop} {a : Act} {w : World} (n : Nat) (h : c.wp P (scopedQ P c Q n) a w) : (Code.scope c).wp P Q a w := by
  intro b k cs
  obtain ⟨e, a₁, w₁, hq, harr⟩ := scoped_key b k cs n c a w h
  refine ⟨e, a₁, w₁, hq, ?_⟩
  exact .of_steps (.one step_scope) harr
/-- The same with what follows behind a name. -/
theorem wp_scope_name {P : Program} {c : Code} {Q : Exit → Act → World → Prop} {a : Act} {w : World} (n : Nat)
    (h : ∀ K : Exit → Act → World → Prop, Hid (K = scopedQ P c Q n) → c.wp P K a w) : (Code.scope c).wp P Q a w :=
  wp_scope_some n (h _ (Lib.hid rfl))
/-- A jump: on behind the label, one jump fewer left. -/
theorem scoped_jump {P : Program} {c : Code} {Q K : Exit → Act → World → Prop} {n l : Nat} {a : Act} {w : World} (hK : Hid (K = scopedQ P c Q (n + 1))) (rest : Code) (hf : findLabel c l = some rest)
    (h : ∀ K' : Exit → Act → World → Prop, Hid (K' = scopedQ P c Q n) → rest.wp P K' a w) : K (.goto l) a w := by
  rw [hK.out]
  exact ⟨rest, hf, h _ (Lib.hid rfl)⟩
theorem scoped_ret {P : Program} {c : Code} {Q K : Exit → Act → World → Prop} {n : Nat} {a : Act} {w : World} (hK : Hid (K = scopedQ P c Q n)) (h : Q .ret a w) : K .ret a w := by
  rw [hK.out, scopedQ_ret]
  exact h
end Go.Proofs.YtnggkkdcddpjlaaGreatDoor
