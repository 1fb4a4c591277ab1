/- The law FnGetFloats returns true at every number of bits, every float and every list of texts, in a world that holds the listed variables as they are laid (Good, PW, PW32) and the texts. -/
import Derived.Test.YtnggkkdcddpjlaaGreatDoorZ48
import Derived.BigQuiet
namespace Go.Proofs.YtnggkkdcddpjlaaGreatDoor
open Go.RowKit Ieee
set_option maxRecDepth 100000
set_option linter.unusedVariables false
set_option linter.unusedSimpArgs false
set_option maxHeartbeats 1000000 in
theorem law_fl_other (bits : Int) (h32 : bits ≠ 32) (h64 : bits ≠ 64) (d : Nat) (w : World) (pv : Option Addr) (n c : Nat) (ss : Nat → ByteArray) (hT : Texts w pv n ss) :
    Calls Tryz.prog 7 #[.int .i64 bits, .float .f64 d, .slice pv n c] w fun e w' => e = .returned (.bool true) ∧ w' = w := by
  have HF := Lib.hid (fits2_run w pv n c ss hT)
  clear hT
  have hb1 : (bits != 32) = true := by simpa using h32
  have hb2 : (bits != 64) = true := by simpa using h64
  go_enter Tryz.func7, Tryz.ntmps7
  go_wp2_with (go_at_call 33; refine HF.out.mono ?_; rintro e w1 ⟨r, rfl, hr, rfl⟩; cases r)
  all_goals (try go_ret)
  all_goals exact ⟨rfl, rfl⟩
theorem Said.form {w : World} {base n : Nat} {v : Value} {bd : Nat → Bool} {V : Nat → Nat → Prop} (h : Said w base v n bd V) : ∃ p c, v = .slice p n c := by
  obtain ⟨xs, ⟨h1, h2⟩, h3⟩ := h
  rcases h2 with ⟨rfl, rfl⟩ | ⟨g, cap, cur, rfl, _⟩
  · exact ⟨none, 0, rfl⟩
  · exact ⟨_, cap, rfl⟩
/-- An answer's cells. -/
theorem Said.at {w : World} {base n : Nat} {p : Option Addr} {c : Nat} {bd : Nat → Bool} {V : Nat → Nat → Prop} (h : Said w base (.slice p n c) n bd V) (i : Nat) (hi : i < n) : ∃ b g, p = some ⟨b, 0, none⟩ ∧ n ≤ c ∧ w.cell? ⟨b, i * 3, none⟩ = some (.bool (bd i)) ∧ w.cell? ⟨b, i * 3 + 1, none⟩ = some (.float .f64 g) ∧ V i g := by
  obtain ⟨xs, ⟨h1, h2⟩, h3⟩ := h
  obtain ⟨g, t, e1, e2, e3, e4⟩ := h3 i hi
  rcases h2 with ⟨_, rfl⟩ | ⟨b, cap, cur, hv, _, hb, hle, _, hsz, htk⟩
  · omega
  injection hv with hp _ hcap
  have cell : ∀ j u, j < n * 3 → xs[j]? = some u → w.cell? ⟨b, j, none⟩ = some u := fun j u hj hu => by
    rw [← htk, List.getElem?_take_of_lt hj] at hu
    simp only [World.cell?, hb]
    simpa using hu
  exact ⟨b, g, hp, by omega, cell _ _ (by omega) (by rw [Nat.mul_comm]; exact e1), cell _ _ (by omega) (by rw [Nat.mul_comm]; exact e2), e4⟩
set_option maxHeartbeats 2000000 in
theorem law_fl64 (d : Nat) (w : World) (hg : Good w) (pv : Option Addr) (n c : Nat) (ss : Nat → ByteArray) (hT : Texts w pv n ss) (bd : Nat → Bool) (V : Nat → Nat → Prop) (hV : ∀ i x y, V i x → V i y → smB x y = true)
    (hA : (∀ i, i < n → (ss i).size ≤ 400) → n ≤ 2147483647 → ∀ w', Below w.heap.size w w' → Calls Tryz.prog 36 #[.int .i64 64, .float .f64 d, .slice pv n c] w' fun e w2 => ∃ out, e = .returned out ∧ Said w2 w'.heap.size out n bd V ∧ Below w'.heap.size w' w2)
    (hB : (∀ i, i < n → (ss i).size ≤ 400) → n ≤ 2147483647 → ∀ w', Below w.heap.size w w' → Calls Tryz.prog 37 #[.int .i64 64, .float .f64 d, .slice pv n c] w' fun e w2 => ∃ out, e = .returned out ∧ Said w2 w'.heap.size out n bd V ∧ Below w'.heap.size w' w2) :
    Calls Tryz.prog 7 #[.int .i64 64, .float .f64 d, .slice pv n c] w fun e w' => e = .returned (.bool true) ∧ Below w.heap.size w w' := by
  have HF := Lib.hid (fits2_run w pv n c ss hT)
  have HL := Lib.hid (long_run w pv n c ss hT)
  have HA := Lib.hid hA
  have HB := Lib.hid hB
  have HV := Lib.hid hV
  clear hT hA hB hV hg
  go_enter Tryz.func7, Tryz.ntmps7
  go_wp2_with (first | (go_at_call 33; refine HF.out.mono ?_; rintro e w1 ⟨r, rfl, hr, rfl⟩; have HR := Lib.hid hr; clear hr; cases r) | (go_at_call 35; refine HL.out.mono ?_; rintro e w1 ⟨r, rfl, hr2, rfl⟩; have HR2 := Lib.hid hr2; clear hr2; cases r) | (go_at_call 36; refine (HA.out (HR2.out (by trivial)) (HR.out (by trivial)) _ (Below.refl _ _)).mono ?_; rintro e w2 ⟨o1, rfl, hs1, hb1⟩; obtain ⟨p1, c1, rfl⟩ := hs1.form; have HS1 := Lib.hid (And.intro hs1 hb1); clear hs1 hb1) | (go_at_call 37; refine (HB.out (HR2.out (by trivial)) (HR.out (by trivial)) _ HS1.out.2).mono ?_; rintro e w3 ⟨o2, rfl, hs2, hb2⟩; obtain ⟨p2, c2, rfl⟩ := hs2.form; have HS2 := Lib.hid (And.intro hs2 hb2); clear hs2 hb2))
  all_goals (try (go_ret; exact ⟨rfl, Below.refl _ _⟩))
  have hk3 := HS2.out.2
  have hnn : n ≤ 2147483647 := HR.out (by trivial)
  have hS1 : Said w3 w1.heap.size (.slice p1 n c1) n bd V := HS1.out.1.frame fun j _ h => hk3.block j h
  have HT1 := Lib.hid hS1
  have HT2 := Lib.hid HS2.out.1
  have HB3 := Lib.hid (HS1.out.2.trans (hk3.mono HS1.out.2.size))
  clear hk3 hS1
  go_loopg [57] n (fun g i wr => ∃ k : Nat, k + g = n ∧ i = .int .i64 k ∧ Hid (Said wr w1.heap.size (.slice p1 n c1) n bd V ∧ Said wr w2.heap.size (.slice p2 n c2) n bd V ∧ Below w1.heap.size w1 wr))
  case atStart => exact ⟨0, by omega, rfl, Lib.hid ⟨HT1.out, HT2.out, HB3.out⟩⟩
  case round =>
    obtain ⟨k, h1, rfl, HK⟩ := hrel
    by_cases hk : (k : Int) < (n : Int)
    · have hkn : k < n := by omega
      obtain ⟨b1, g1, rfl, hq1, ca1, cb1, v1⟩ := HK.out.1.at k hkn
      obtain ⟨b2, g2, rfl, hq2, ca2, cb2, v2⟩ := HK.out.2.1.at k hkn
      have hsm := HV.out k g1 g2 v1 v2
      have hsr := same_run g1 g2
      rw [hsm] at hsr
      have HSR := Lib.hid hsr
      have hj0 : (0 : Int) ≤ (k : Int) := by omega
      have hj2 : (k : Int) ≤ (n : Int) := by omega
      obtain ⟨B, hB⟩ : ∃ B, B = bd k := ⟨_, rfl⟩
      rw [← hB] at ca1 ca2
      clear hsr hsm v1 v2 hB
      cases B
      all_goals
        go_wp2_with fail
        go_quiet ((go_at_call 34; exact Calls.quiet_of_same (HSR.out _)))
        go_wp2_with fail
        go_roundg (gk - 1)
        case measure => omega
        case rel => exact ⟨k + 1, by omega, by simp <;> (unfold wrap64; omega), Lib.hid ⟨HK.out.1.frame fun j _ h => rfl, HK.out.2.1.frame fun j _ h => rfl, below_dn HK.out.2.2 _⟩⟩
    · go_wp2_with fail
      all_goals (try go_ret)
      exact ⟨rfl, HK.out.2.2⟩
end Go.Proofs.YtnggkkdcddpjlaaGreatDoor
namespace Go.Proofs.YtnggkkdcddpjlaaGreatDoor
open Go.RowKit Ieee
set_option maxRecDepth 100000
set_option linter.unusedVariables false
set_option linter.unusedSimpArgs false
set_option maxHeartbeats 2000000 in
theorem law_fl32 (d : Nat) (cv : World → Nat) (cd : Nat) (cv2 : World → World → Nat) (cd2 : World → Nat) (hcv : ∀ w, (convert 25 66 (.float .f64 d)).run Tryz.prog w = .ok (.float .f32 (cv w)) (w.drewN cd)) (hcv2 : ∀ w0 w, (convert 66 25 (.float .f32 (cv w0))).run Tryz.prog w = .ok (.float .f64 (cv2 w0 w)) (w.drewN (cd2 w0))) (hs : ∀ w0 w, smB (cv2 w0 w) d = true) (w : World) (hg : Good w) (pv : Option Addr) (n c : Nat) (ss : Nat → ByteArray) (hT : Texts w pv n ss) (bd : Nat → Bool) (V : Nat → Nat → Prop) (hV : ∀ i x y, V i x → V i y → smB x y = true)
    (hA : (∀ i, i < n → (ss i).size ≤ 400) → n ≤ 2147483647 → ∀ w', Below w.heap.size w w' → Calls Tryz.prog 36 #[.int .i64 32, .float .f64 d, .slice pv n c] w' fun e w2 => ∃ out, e = .returned out ∧ Said w2 w'.heap.size out n bd V ∧ Below w'.heap.size w' w2)
    (hB : (∀ i, i < n → (ss i).size ≤ 400) → n ≤ 2147483647 → ∀ w', Below w.heap.size w w' → Calls Tryz.prog 37 #[.int .i64 32, .float .f64 d, .slice pv n c] w' fun e w2 => ∃ out, e = .returned out ∧ Said w2 w'.heap.size out n bd V ∧ Below w'.heap.size w' w2) :
    Calls Tryz.prog 7 #[.int .i64 32, .float .f64 d, .slice pv n c] w fun e w' => e = .returned (.bool true) ∧ Below w.heap.size w w' := by
  have HF := Lib.hid (fits2_run w pv n c ss hT)
  have HL := Lib.hid (fun j => long_run (w.drewN j) pv n c ss (hT.on (below_dn (Below.refl _ _) j)))
  have HA := Lib.hid hA
  have HB := Lib.hid hB
  have HV := Lib.hid hV
  have HSD := Lib.hid (fun w0 w w' => by have h := same_run (cv2 w0 w) d w'; rw [hs w0 w] at h; exact h : ∀ w0 w w', Calls Tryz.prog 34 #[.float .f64 (cv2 w0 w), .float .f64 d] w' fun e w5 => e = .returned (.bool true) ∧ w5 = w')
  clear hT hA hB hV hg hs
  go_enter Tryz.func7, Tryz.ntmps7
  go_wp2_with (first | (go_at_call 33; refine HF.out.mono ?_; rintro e w1 ⟨r, rfl, hr, rfl⟩; have HR := Lib.hid hr; clear hr; cases r) | (go_at_call 34; refine (HSD.out _ _ _).mono ?_; rintro e w6 ⟨rfl, rfl⟩) | (go_at_call 35; refine (HL.out _).mono ?_; rintro e w7 ⟨r, rfl, hr2, rfl⟩; have HR2 := Lib.hid hr2; clear hr2; cases r) | (go_at_call 36; refine (HA.out (HR2.out (by trivial)) (HR.out (by trivial)) _ (below_dn (Below.refl _ _) _)).mono ?_; rintro e w2 ⟨o1, rfl, hs1, hb0⟩; have hb1 : Below w1.heap.size w1 w2 := ⟨hb0.os, hb0.tape, hb0.output, hb0.size, hb0.block⟩; have hs1 : Said w2 w1.heap.size o1 n bd V := hs1; clear hb0; obtain ⟨p1, c1, rfl⟩ := hs1.form; have HS1 := Lib.hid (And.intro hs1 hb1); clear hs1 hb1) | (go_at_call 37; refine (HB.out (HR2.out (by trivial)) (HR.out (by trivial)) _ HS1.out.2).mono ?_; rintro e w3 ⟨o2, rfl, hs2, hb2⟩; obtain ⟨p2, c2, rfl⟩ := hs2.form; have HS2 := Lib.hid (And.intro hs2 hb2); clear hs2 hb2))
  all_goals (try (go_ret; first | exact ⟨rfl, Below.refl _ _⟩ | exact ⟨rfl, below_dn (Below.refl _ _) _⟩))
  have hk3 := HS2.out.2
  have hnn : n ≤ 2147483647 := HR.out (by trivial)
  have hS1 : Said w3 w1.heap.size (.slice p1 n c1) n bd V := HS1.out.1.frame fun j _ h => hk3.block j h
  have HT1 := Lib.hid hS1
  have HT2 := Lib.hid HS2.out.1
  have HB3 := Lib.hid (HS1.out.2.trans (hk3.mono HS1.out.2.size))
  clear hk3 hS1
  go_loopg [57] n (fun g i wr => ∃ k : Nat, k + g = n ∧ i = .int .i64 k ∧ Hid (Said wr w1.heap.size (.slice p1 n c1) n bd V ∧ Said wr w2.heap.size (.slice p2 n c2) n bd V ∧ Below w1.heap.size w1 wr))
  case atStart => exact ⟨0, by omega, rfl, Lib.hid ⟨HT1.out, HT2.out, HB3.out⟩⟩
  case round =>
    obtain ⟨k, h1, rfl, HK⟩ := hrel
    by_cases hk : (k : Int) < (n : Int)
    · have hkn : k < n := by omega
      obtain ⟨b1, g1, rfl, hq1, ca1, cb1, v1⟩ := HK.out.1.at k hkn
      obtain ⟨b2, g2, rfl, hq2, ca2, cb2, v2⟩ := HK.out.2.1.at k hkn
      have hsm := HV.out k g1 g2 v1 v2
      have hsr := same_run g1 g2
      rw [hsm] at hsr
      have HSR := Lib.hid hsr
      have hj0 : (0 : Int) ≤ (k : Int) := by omega
      have hj2 : (k : Int) ≤ (n : Int) := by omega
      obtain ⟨B, hB⟩ : ∃ B, B = bd k := ⟨_, rfl⟩
      rw [← hB] at ca1 ca2
      clear hsr hsm v1 v2 hB
      cases B
      all_goals
        go_wp2_with fail
        go_quiet ((go_at_call 34; exact Calls.quiet_of_same (HSR.out _)))
        go_wp2_with fail
        go_roundg (gk - 1)
        case measure => omega
        case rel => exact ⟨k + 1, by omega, by simp <;> (unfold wrap64; omega), Lib.hid ⟨HK.out.1.frame fun j _ h => rfl, HK.out.2.1.frame fun j _ h => rfl, below_dn HK.out.2.2 _⟩⟩
    · go_wp2_with fail
      all_goals (try go_ret)
      exact ⟨rfl, HK.out.2.2⟩
end Go.Proofs.YtnggkkdcddpjlaaGreatDoor
namespace Go.Proofs.YtnggkkdcddpjlaaGreatDoor
open Go.RowKit Ieee
set_option maxRecDepth 100000
set_option linter.unusedVariables false
set_option linter.unusedSimpArgs false
set_option maxHeartbeats 2000000 in
theorem law_fl32_no (d : Nat) (cv : World → Nat) (cd : Nat) (cv2 : World → World → Nat) (cd2 : World → Nat) (hcv : ∀ w, (convert 25 66 (.float .f64 d)).run Tryz.prog w = .ok (.float .f32 (cv w)) (w.drewN cd)) (hcv2 : ∀ w0 w, (convert 66 25 (.float .f32 (cv w0))).run Tryz.prog w = .ok (.float .f64 (cv2 w0 w)) (w.drewN (cd2 w0))) (hs : ∀ w0 w, smB (cv2 w0 w) d = false) (w : World) (hg : Good w) (pv : Option Addr) (n c : Nat) (ss : Nat → ByteArray) (hT : Texts w pv n ss) :
    Calls Tryz.prog 7 #[.int .i64 32, .float .f64 d, .slice pv n c] w fun e w' => e = .returned (.bool true) ∧ Below w.heap.size w w' := by
  have HF := Lib.hid (fits2_run w pv n c ss hT)
  have HL := Lib.hid (fun j => long_run (w.drewN j) pv n c ss (hT.on (below_dn (Below.refl _ _) j)))
  have HSD := Lib.hid (fun w0 w w' => by have h := same_run (cv2 w0 w) d w'; rw [hs w0 w] at h; exact h : ∀ w0 w w', Calls Tryz.prog 34 #[.float .f64 (cv2 w0 w), .float .f64 d] w' fun e w5 => e = .returned (.bool false) ∧ w5 = w')
  clear hT hg hs
  go_enter Tryz.func7, Tryz.ntmps7
  go_wp2_with (first | (go_at_call 33; refine HF.out.mono ?_; rintro e w1 ⟨r, rfl, hr, rfl⟩; cases r) | (go_at_call 34; refine (HSD.out _ _ _).mono ?_; rintro e w6 ⟨rfl, rfl⟩))
  all_goals (try go_ret)
  all_goals first | exact ⟨rfl, Below.refl _ _⟩ | exact ⟨rfl, below_dn (Below.refl _ _) _⟩
end Go.Proofs.YtnggkkdcddpjlaaGreatDoor
namespace Go.Proofs.YtnggkkdcddpjlaaGreatDoor
open Go.RowKit Ieee
set_option maxRecDepth 100000
set_option linter.unusedVariables false
set_option linter.unusedSimpArgs false
/-- A finite float that is too great for the narrower kind: the word is drawn. -/
theorem run_conv_far {P : Program} (w : World) (src dst : TypeId) (s k : FloatKind) (b n : Nat) (hs : (P.underlying src).isSome = true) (hd : P.underlying dst = some (.float k)) (hne : s ≠ k) (sg : Bool) (m : Nat) (e : Int) (hn : s.decode b = .number sg m e) (ho : (k.decode (k.encode (.number sg m e))).isInfinity = true) (hq : (Question.floatToFloat b).cut (w.tape w.drawn (.floatToFloat b)) = n) :
    (convert src dst (.float s b)).run P w = .ok (.float k n) w.drew := by
  obtain ⟨u, hs'⟩ := Option.isSome_iff_exists.1 hs
  have hf : (Question.floatToFloat b).forced = false := rfl
  cases u <;> simp [convert, run_underlying hs', run_underlying hd, Conv.floatToFloat, hne, hn, ho, hf, hq]
/-- float32(x) of a float64 that is no nan. -/
theorem conv_all (d : Nat) (hd : d < 18446744073709551616) (hn : Num64 d) : ∃ (cv : World → Nat) (cd : Nat), (∀ w, (convert 25 66 (.float .f64 d)).run Tryz.prog w = .ok (.float .f32 (cv w)) (w.drewN cd)) ∧ (∀ w, cv w < 4294967296) ∧ ((∃ y, floatToFloatBits .f64 d .f32 = some y ∧ ∀ w, cv w = y) ∨ floatToFloatBits .f64 d .f32 = none) := by
  cases h : floatToFloatBits .f64 d .f32 with
  | some y =>
    have hw : (Lit.float .f64 d).wf = true := decide_eq_true hd
    have hy : y < 4294967296 := of_decide_eq_true (floatToFloatBits_wf hw h)
    exact ⟨fun _ => y, 0, fun w => run_convert_float_float (P := Tryz.prog) w 25 66 .f64 .f32 d y (by rw [Tryz.underlying25]; rfl) Tryz.underlying66 h, fun _ => hy, Or.inl ⟨y, rfl, fun _ => rfl⟩⟩
  | none =>
    unfold floatToFloatBits at h
    rw [if_neg (by decide)] at h
    cases hx : FloatKind.f64.decode d with
    | nan s t =>
      exfalso
      have h1 := ord_num hd hn
      unfold Format.order at h1
      rw [show FloatKind.f64.format.read d = .nan s t from hx] at h1
      have h2 : true = false := h1
      cases h2
    | infinity s =>
      rw [hx] at h
      cases h
    | number s m e =>
      rw [hx] at h
      dsimp only at h
      by_cases hi : (FloatKind.f32.decode (FloatKind.f32.encode (.number s m e))).isInfinity = true
      · exact ⟨fun w => (Question.floatToFloat d).cut (w.tape w.drawn (.floatToFloat d)), 1, fun w => run_conv_far w 25 66 .f64 .f32 d _ (by rw [Tryz.underlying25]; rfl) Tryz.underlying66 (by decide) s m e hx hi rfl, fun w => Nat.mod_lt _ (by decide), Or.inr rfl⟩
      · rw [if_neg hi] at h
        cases h
theorem law_fl32_yes (d : Nat) (o : Option Nat) (ho : Ok32 o) (hdo : G32 o d) (w : World) (hg : Good w) (hw : PW32 w) (pv : Option Addr) (n c : Nat) (ss : Nat → ByteArray) (hT : Texts w pv n ss) :
    Calls Tryz.prog 7 #[.int .i64 32, .float .f64 d, .slice pv n c] w fun e w' => e = .returned (.bool true) ∧ Below w.heap.size w w' := by
  obtain ⟨cv, cd, hcv, hi⟩ := conv_to32 o d hdo
  have h2 : ∀ w0, ∃ p : (World → Nat) × Nat, (∀ w, (convert 66 25 (.float .f32 (cv w0))).run Tryz.prog w = .ok (.float .f64 (p.1 w)) (w.drewN p.2)) ∧ ∀ w, G32 o (p.1 w) := fun w0 => by
    obtain ⟨a, b, h3, h4⟩ := conv_to64 66 Tryz.underlying66 o ho (cv w0) (hi w0)
    exact ⟨(a, b), h3, h4⟩
  obtain ⟨cc, hcc⟩ := Classical.axiomOfChoice h2
  have hs : ∀ w0 w, smB ((cc w0).1 w) d = true := fun w0 w => smB_32 ((hcc w0).2 w) hdo
  by_cases hS : ∀ i, i < n → (ss i).size ≤ 400
  · have hP : ∀ i, ∃ p : Option Nat × Bool, i < n → Ok32 p.1 ∧ ∀ w, Good w → PW32 w → Calls Tryz.prog 133 #[.string (ss i), .int .i64 32] w (Num32Post w p.1 p.2) := fun i => by
      by_cases hi : i < n
      · obtain ⟨f, b, h3, h4⟩ := parseFloat32_any (ss i) (Nat.le_trans (hS i hi) (by decide))
        exact ⟨(f, b), fun _ => ⟨h3, h4⟩⟩
      · exact ⟨(none, false), fun h => absurd h hi⟩
    obtain ⟨fb, hfb⟩ := Classical.axiomOfChoice hP
    exact law_fl32 d cv cd (fun w0 => (cc w0).1) (fun w0 => (cc w0).2) hcv (fun w0 w => (hcc w0).1 w) hs w hg pv n c ss hT (fun i => (fb i).2) (fun i g => G32 (fb i).1 g) (fun i x y hx hy => smB_32 hx hy)
      (fun _ hn w' hb => getfl32 w' (hg.on hb) (hw.on hb) pv n c ss (hT.on hb) hn (fun i => (fb i).1) (fun i => (fb i).2) hfb d o ho hdo)
      (fun _ hn w' hb => flval32 w' (hg.on hb) (hw.on hb) pv n c ss (hT.on hb) hn (fun i => (fb i).1) (fun i => (fb i).2) hfb d o hdo)
  · exact law_fl32 d cv cd (fun w0 => (cc w0).1) (fun w0 => (cc w0).2) hcv (fun w0 w => (hcc w0).1 w) hs w hg pv n c ss hT (fun _ => true) (fun _ _ => False) (fun _ _ _ h => h.elim) (fun h => absurd h hS) (fun h => absurd h hS)
theorem law_fl32_all (d : Nat) (hd : d < 18446744073709551616) (w : World) (hg : Good w) (hw : PW32 w) (pv : Option Addr) (n c : Nat) (ss : Nat → ByteArray) (hT : Texts w pv n ss) :
    Calls Tryz.prog 7 #[.int .i64 32, .float .f64 d, .slice pv n c] w fun e w' => e = .returned (.bool true) ∧ Below w.heap.size w w' := by
  by_cases hn : Num64 d
  · obtain ⟨cv, cd, hcv, hlt, hk⟩ := conv_all d hd hn
    by_cases hy : ∃ y, floatToFloatBits .f64 d .f32 = some y ∧ floatToFloatBits .f32 y .f64 = some d ∧ Num32 y
    · obtain ⟨y, h1, h2, h3⟩ := hy
      have hy : y < 4294967296 := by
        rcases hk with ⟨y', e1, e2⟩ | e
        · obtain rfl := Option.some.inj (h1.symm.trans e1)
          exact e2 w ▸ hlt w
        · rw [h1] at e
          cases e
      exact law_fl32_yes d (some y) (fun z hz => by cases hz; exact ⟨hy, h3⟩) ⟨hd, h2, h1, hn⟩ w hg hw pv n c ss hT
    · have h2 : ∀ w0, ∃ p : (World → Nat) × Nat, (∀ w, (convert 66 25 (.float .f32 (cv w0))).run Tryz.prog w = .ok (.float .f64 (p.1 w)) (w.drewN p.2)) ∧ ∀ w, Wide (cv w0) (p.1 w) := fun w0 => by
        obtain ⟨a, b, h3, h4⟩ := conv_wide (cv w0) (hlt w0)
        exact ⟨(a, b), h3, h4⟩
      obtain ⟨cc, hcc⟩ := Classical.axiomOfChoice h2
      have hs : ∀ w0 w, smB ((cc w0).1 w) d = false := fun w0 w => by
        obtain ⟨g1, g2, g3⟩ := (hcc w0).2 w
        cases hB : smB ((cc w0).1 w) d with
        | false => rfl
        | true =>
          exfalso
          by_cases h3 : Num32 (cv w0)
          · obtain ⟨g4, g5⟩ := g2 h3
            rcases smB_to g1 hB with he | he
            · rw [he] at g4
              obtain ⟨h, _, _, k1, k2⟩ := wid_nar (cv w0) (hlt w0) h3
              have he2 : h = d := Option.some.inj (k1.symm.trans g4)
              rw [he2] at k2
              exact hy ⟨cv w0, k2, g4, h3⟩
            · exact he g5
          · have g6 := g3 h3
            unfold smB at hB
            rw [ord_num hd hn] at hB
            have he : (cc w0).1 w = d := by simpa using hB
            exact g6 (he ▸ hn)
      exact law_fl32_no d cv cd (fun w0 => (cc w0).1) (fun w0 => (cc w0).2) hcv (fun w0 w => (hcc w0).1 w) hs w hg pv n c ss hT
  · exact law_fl32_yes d none (fun z hz => by cases hz) ⟨hd, hn⟩ w hg hw pv n c ss hT
/-- The law: for every number of bits, every float and every list of texts it returns true. -/
theorem law_fl (bits : Int) (d : Nat) (hd : d < 18446744073709551616) (w : World) (hg : Good w) (hw : PW w) (hw2 : PW32 w) (pv : Option Addr) (n c : Nat) (ss : Nat → ByteArray) (hT : Texts w pv n ss) :
    Calls Tryz.prog 7 #[.int .i64 bits, .float .f64 d, .slice pv n c] w fun e w' => e = .returned (.bool true) ∧ Below w.heap.size w w' := by
  by_cases h64 : bits = 64
  · subst h64
    by_cases hS : ∀ i, i < n → (ss i).size ≤ 400
    · have hP : ∀ i, ∃ p : Nat × Bool, i < n → p.1 < 18446744073709551616 ∧ ∀ w, Good w → PW w → Calls Tryz.prog 133 #[.string (ss i), .int .i64 64] w (NumPost w (.float .f64 p.1) p.2) := fun i => by
        by_cases hi : i < n
        · obtain ⟨f, b, h3, h4⟩ := parseFloat_lt (ss i) (Nat.le_trans (hS i hi) (by decide))
          exact ⟨(f, b), fun _ => ⟨h3, h4⟩⟩
        · exact ⟨(0, false), fun h => absurd h hi⟩
      obtain ⟨fb, hfb⟩ := Classical.axiomOfChoice hP
      exact law_fl64 d w hg pv n c ss hT (fun i => (fb i).2) (fun i g => g = (fb i).1 ∨ (¬ Num64 (fb i).1 ∧ ¬ Num64 g)) (fun i x y hx hy => smB_64 hx hy)
        (fun _ hn w' hb => getfl64 w' (hg.on hb) (hw.on hb) pv n c ss (hT.on hb) hn (fun i => (fb i).1) (fun i => (fb i).2) hfb d hd)
        (fun _ hn w' hb => flval64 w' (hg.on hb) (hw.on hb) pv n c ss (hT.on hb) hn (fun i => (fb i).1) (fun i => (fb i).2) hfb d)
    · exact law_fl64 d w hg pv n c ss hT (fun _ => true) (fun _ _ => False) (fun _ _ _ h => h.elim) (fun h => absurd h hS) (fun h => absurd h hS)
  by_cases h32 : bits = 32
  · subst h32
    exact law_fl32_all d hd w hg hw2 pv n c ss hT
  · exact (law_fl_other bits h32 h64 d w pv n c ss hT).mono fun e w' ⟨h1, h2⟩ => ⟨h1, h2 ▸ Below.refl _ _⟩
end Go.Proofs.YtnggkkdcddpjlaaGreatDoor
