/- The slice that castPairs leaves, as the rest reads it; spec.CastLast, spec.CastKeys. -/
import Derived.Test.YtnggkkdcddpjlaaGreatDoorC7
import Derived.Test.YtnggkkdcddpjlaaGreatDoorMP
namespace Go.Proofs.YtnggkkdcddpjlaaGreatDoor
open Go.RowKit
set_option maxRecDepth 100000
set_option linter.unusedVariables false
/-- The world holds the entries es 0 .. es (n - 1) at the slice (p, n, cap). -/
structure Lst (w : World) (p : Option Addr) (n cap : Nat) (es : Nat → Ent) : Prop where
  le : n ≤ cap
  n60 : n ≤ 60
  at0 : 0 < n → ∃ g, p = some ⟨g, 0, none⟩ ∧ g < w.heap.size ∧ ∀ j, j < n → w.rangeAt g (j * 8) (es j).cells
theorem Lst.on {w w2 : World} {p : Option Addr} {n cap : Nat} {es : Nat → Ent} (h : Lst w p n cap es) (hb : Below w.heap.size w w2) : Lst w2 p n cap es := by
  refine ⟨h.le, h.n60, fun h0 => ?_⟩
  obtain ⟨g, hp, hg, hc⟩ := h.at0 h0
  exact ⟨g, hp, Nat.lt_of_lt_of_le hg hb.size, fun j hj t v hv => (hb.cell (p := ⟨g, j * 8 + t, none⟩) hg).trans (hc j hj t v hv)⟩
theorem Lst.take {w : World} {p : Option Addr} {n cap : Nat} {es : Nat → Ent} (h : Lst w p n cap es) {k : Nat} (hk : k ≤ n) : Lst w p k cap es := by
  refine ⟨Nat.le_trans hk h.le, Nat.le_trans hk h.n60, fun h0 => ?_⟩
  obtain ⟨g, hp, hg, hc⟩ := h.at0 (by omega)
  exact ⟨g, hp, hg, fun j hj => hc j (by omega)⟩
theorem flat_length (es : Nat → Ent) : ∀ n, (flat es n).length = n * 8
  | 0 => rfl
  | n + 1 => by rw [flat_succ, List.length_append, flat_length es n]; simp; omega
theorem flat_get (es : Nat → Ent) : ∀ n j t, j < n → t < 8 → (flat es n)[j * 8 + t]? = (es j).cells[t]?
  | 0, j, t, h, _ => by omega
  | n + 1, j, t, h, ht => by
    rw [flat_succ]
    by_cases hj : j < n
    · rw [List.getElem?_append_left (by rw [flat_length]; omega)]
      exact flat_get es n j t hj ht
    · have : j = n := by omega
      subst this
      rw [List.getElem?_append_right (by rw [flat_length]; omega), flat_length]
      congr 1
      omega
theorem lst_of_owns {w : World} {base : Nat} {v : Value} {n : Nat} {es : Nat → Ent} (h : w.ownsRow base 30 8 v n (flat es n)) (h60 : n ≤ 60) : ∃ p cap, v = .slice p n cap ∧ Lst w p n cap es := by
  rcases h.2 with ⟨rfl, rfl⟩ | ⟨g, cap, cur, rfl, hb, hg, hle, hm, hs, ht⟩
  · exact ⟨none, 0, rfl, by omega, by omega, fun h => by omega⟩
  · refine ⟨_, _, rfl, hle, h60, fun h0 => ⟨g, rfl, (Array.getElem?_eq_some_iff.1 hg).1, fun j hj t v hv => ?_⟩⟩
    have ht8 : t < 8 := by simpa using (List.getElem?_eq_some_iff.1 hv).1
    have h1 := h.cells (g := g) rfl (j * 8 + t) v (by rw [flat_get es n j t hj ht8]; exact hv)
    rw [Addr.add_mid] at h1
    simpa using h1
theorem results_row_tmp {P : Program} {fn : Func} {p u : Tmp} {ty : TypeId} (h : fn.results = #[.cell p ty, .tmp u]) (tmps : Array Value) (w : World) (g : Nat) (t : TypeId) (cs : Array Value) (fr : Nat × Nat) (d : TypeDesc)
    (hp : tmps.getD p undef = .pointer (some ⟨g, 0, none⟩)) (hg : w.heap[g]? = some (.cells cs t fr))
    (hu : P.underlying ty = some d) (hd : (match d with | .struct _ | .array _ _ => true | _ => false) = true) (hi : (P.info? ty).map (·.size) = some cs.size) :
    (results fn tmps).run P w = .ok (.tuple #[.agg cs, tmps.getD u undef]) w := by
  have hp' : tmps[p]?.getD undef = .pointer (some ⟨g, 0, none⟩) := by simpa using hp
  simp [results, h, hp', asAddr, run_loadVar_row w g t ty cs fr d hg hu hd hi]
theorem toList_beq (a b : ByteArray) : (a.toList == b.toList) = decide (a = b) := by
  rw [ByteArray.toList_eq, ByteArray.toList_eq]
  obtain ⟨⟨x⟩⟩ := a
  obtain ⟨⟨y⟩⟩ := b
  by_cases h : x = y
  · subst h; simp
  · rw [decide_eq_false (fun e => h (by cases e; rfl))]
    simpa using h
/-- The last entry of a key. -/
def last (es : Nat → Ent) (key : ByteArray) : Nat → Option Ent
  | 0 => none
  | n + 1 => if (es n).key = key then some (es n) else last es key n
def lastAny (es : Nat → Ent) (key : ByteArray) (n : Nat) : Value := match last es key n with | some e => e.any | none => .agg (anyC 0 0 0 0 ⟨#[]⟩ (.slice none 0 0) (.slice none 0 0))
theorem lastAny_form (es : Nat → Ent) (key : ByteArray) (n : Nat) : ∃ a b c d e, lastAny es key n = .agg (anyC a b c d e (.slice none 0 0) (.slice none 0 0)) := by
  unfold lastAny
  cases last es key n with
  | none => exact ⟨_, _, _, _, _, rfl⟩
  | some x => exact ⟨_, _, _, _, _, rfl⟩
theorem cast_last (p : Option Addr) (n cap : Nat) (es : Nat → Ent) (key : ByteArray) (w : World) (hL : Lst w p n cap es) :
    Calls Tryz.prog 12 #[.slice p n cap, .string key] w fun r w' => r = .returned (.tuple #[lastAny es key n, .bool (last es key n).isSome]) ∧ Below w.heap.size w w' := by
  have h1 := hL.le
  have h2 := hL.n60
  have HL := Lib.hid hL
  clear hL
  obtain ⟨V, hV⟩ : ∃ V, V = lastAny es key n := ⟨_, rfl⟩
  obtain ⟨B, hB⟩ : ∃ B, B = (last es key n).isSome := ⟨_, rfl⟩
  rw [← hV, ← hB]
  have HV := Lib.hid hV
  have HB := Lib.hid hB
  clear hV hB
  go_enter Tryz.func12, Tryz.ntmps12
  go_wp2
  go_loopw [6] (fun i wr => ∃ k : Nat, k ≤ n ∧ i = .int .i64 ((k : Int) - 1) ∧ Below w.heap.size w wr ∧ wr.heap[w.heap.size]? = some (.cells (anyC 0 0 0 0 ⟨#[]⟩ (.slice none 0 0) (.slice none 0 0)) 28 (0, 0)) ∧ last es key n = last es key k) (fun i _ => (intOf i + 1).toNat)
  case atStart => exact ⟨n, Nat.le_refl _, rfl, below_alloc w _, heap_alloc_new _ _, rfl⟩
  case round =>
    obtain ⟨k, hk, rfl, hb, hrow, hlast⟩ := hrel
    have HRow := Lib.hid hrow
    have HBel := Lib.hid hb
    have HLast := Lib.hid hlast
    have HL2 := Lib.hid (HL.out.on hb)
    clear hrow hb hlast
    cases k with
    | zero =>
      go_wp2_with (refine wpList_store_row rfl 28 _ _ rfl w.heap.size (anyC 0 0 0 0 ⟨#[]⟩ (.slice none 0 0) (.slice none 0 0)) rfl rfl 28 _ HRow.out size28 rfl (one_any _ _ _ _ _ rfl rfl) ?_)
      all_goals
        have hS := setRow_heap wr w.heap.size _ (anyC 0 0 0 0 ⟨#[]⟩ (.slice none 0 0) (.slice none 0 0)) 28 (0, 0) HRow.out
        refine bodyPost_ret (results_row_tmp rfl _ _ _ _ _ _ _ rfl hS Tryz.underlying28 rfl size28) rfl ⟨?_, below_setRow HBel.out (Nat.le_refl _) _⟩
        rw [HV.out, HB.out, lastAny, HLast.out]
        rfl
    | succ j =>
      obtain ⟨g, rfl, hg, hc⟩ := HL2.out.at0 (by omega)
      have hcj := Lib.hid (hc j (by omega))
      have hkey : wr.cell? ⟨g, j * 8, none⟩ = some (.string (es j).key) := hc j (by omega) 0 _ rfl
      have e1 : ((j + 1 : Nat) : Int) - 1 = (j : Int) := by omega
      rw [e1]
      have hj0 : (0 : Int) ≤ (j : Int) := by omega
      have hj1 : (j : Int) < (n : Int) := by omega
      clear hc e1
      have hra : wr.rangeAt g (j * 8 + 1) [.int .i64 (es j).k, .int .i64 (es j).i, .int .u64 (es j).u, .float .f64 (es j).f, .string (es j).s, .slice none 0 0, .slice none 0 0] := fun t v hv => by
        rw [Nat.add_assoc]
        exact hcj.out (1 + t) v (by rw [Nat.add_comm]; exact hv)
      have HRa := Lib.hid hra
      clear hra
      have hbq := toList_beq (es j).key key
      by_cases hk : (es j).key = key
      · have hkb : ((es j).key.toList == key.toList) = true := by rw [hbq]; simpa using hk
        have HK := Lib.hid hk
        clear hk hbq
        go_wp2_with (first | (refine wpList_load_mid rfl 28 _ rfl g (j * 8 + 1) rfl _ _ HRa.out Tryz.underlying28 rfl size28 ?_) | (refine wpList_store_row rfl 28 _ _ rfl w.heap.size (anyC (es j).k (es j).i (es j).u (es j).f (es j).s (.slice none 0 0) (.slice none 0 0)) rfl rfl 28 _ HRow.out size28 rfl (one_any _ _ _ _ _ rfl rfl) ?_))
        all_goals
          have hS := setRow_heap wr w.heap.size _ (anyC (es j).k (es j).i (es j).u (es j).f (es j).s (.slice none 0 0) (.slice none 0 0)) 28 (0, 0) HRow.out
          refine bodyPost_ret (results_row_tmp rfl _ _ _ _ _ _ _ rfl hS Tryz.underlying28 rfl size28) rfl ⟨?_, below_setRow HBel.out (Nat.le_refl _) _⟩
          rw [HV.out, HB.out, lastAny, HLast.out, last, if_pos HK.out]
          rfl
      · have hkb : ((es j).key.toList == key.toList) = false := by rw [hbq]; simpa using hk
        have HK := Lib.hid hk
        clear hk hbq
        go_wp2_with fail
        exact ⟨⟨j, by omega, rfl, HBel.out, HRow.out, by rw [HLast.out, last, if_neg HK.out]⟩, by simp [intOf]⟩

theorem chain7 {B : Nat} {w w2 : World} (h : Below B w w2) {v0 v1 v2 v3 v4 v5 v6 : Value} : Below B w (((((((w2.setCell ⟨B, 0, none⟩ v0).setCell ⟨B, 1, none⟩ v1).setCell ⟨B, 2, none⟩ v2).setCell ⟨B, 3, none⟩ v3).setCell ⟨B, 4, none⟩ v4).setCell ⟨B, 5, none⟩ v5).setCell ⟨B, 6, none⟩ v6) :=
  have q {o : Nat} : B ≤ (⟨B, o, none⟩ : Addr).block := Nat.le_refl _
  ((((((h.setCell q _).setCell q _).setCell q _).setCell q _).setCell q _).setCell q _).setCell q _
theorem held_cells {w w2 : World} (hb : Below w.heap.size w w2) : (∀ b j, b < w.heap.size → w2.cell? ⟨b, j, none⟩ = w.cell? ⟨b, j, none⟩) ∧ (∀ b j, b < w.heap.size → w2.frozen? ⟨b, j, none⟩ = w.frozen? ⟨b, j, none⟩) :=
  ⟨fun b j h => hb.cell (p := ⟨b, j, none⟩) h, fun b j h => hb.frozen (p := ⟨b, j, none⟩) h⟩
/-- How many different keys there are. -/
def keysN (es : Nat → Ent) : Nat → Nat
  | 0 => 0
  | n + 1 => keysN es n + if (last es (es n).key n).isSome then 0 else 1
theorem keysN_le (es : Nat → Ent) : ∀ n, keysN es n ≤ n
  | 0 => Nat.le_refl _
  | n + 1 => by unfold keysN; have := keysN_le es n; split <;> omega
set_option maxHeartbeats 4000000 in
theorem cast_keys (p : Option Addr) (n cap : Nat) (es : Nat → Ent) (w : World) (hL : Lst w p n cap es) :
    Calls Tryz.prog 11 #[.slice p n cap] w fun r w' => r = .returned (.int .i64 (keysN es n)) ∧ Below w.heap.size w w' := by
  have h1 := hL.le
  have h2 := hL.n60
  have HL := Lib.hid hL
  clear hL
  obtain ⟨V, hV⟩ : ∃ V, V = keysN es n := ⟨_, rfl⟩
  rw [← hV]
  have HV := Lib.hid hV
  clear hV
  go_enter Tryz.func11, Tryz.ntmps11
  go_wp2
  go_loopw [3, 9] (fun c i wr => ∃ k : Nat, k ≤ n ∧ i = .int .i64 k ∧ c = .int .i64 (keysN es k) ∧ Below w.heap.size w wr) (fun _ i _ => n - (intOf i).toNat)
  case atStart => exact ⟨0, Nat.zero_le _, rfl, rfl, Below.refl _ _⟩
  case round =>
    obtain ⟨k, hk, rfl, rfl, hb⟩ := hrel
    have HBel := Lib.hid hb
    have HL2 := Lib.hid (HL.out.on hb)
    clear hb
    obtain ⟨q, hq⟩ : ∃ q, q = keysN es k := ⟨_, rfl⟩
    have hq1 := keysN_le es k
    rw [← hq] at hq1
    rw [← hq]
    have HQ := Lib.hid hq
    clear hq
    by_cases hkn : k < n
    · obtain ⟨g, rfl, hg, hc⟩ := HL2.out.at0 (by omega)
      have hkey : wr.cell? ⟨g, k * 8, none⟩ = some (.string (es k).key) := hc k (by omega) 0 _ rfl
      clear hc
      have hj0 : (0 : Int) ≤ (k : Int) := by omega
      have hj1 : (k : Int) < (n : Int) := by omega
      have hj2 : (k : Int) ≤ (n : Int) := by omega
      have HCL := Lib.hid (fun w (h : Lst w (some ⟨g, 0, none⟩) k cap es) => cast_last (some ⟨g, 0, none⟩) k cap es (es k).key w h)
      obtain ⟨a1, a2, a3, a4, a5, hL⟩ := lastAny_form es (es k).key k
      obtain ⟨B, hB⟩ : ∃ B, B = (last es (es k).key k).isSome := ⟨_, rfl⟩
      rw [hL, ← hB] at HCL
      have hj3 : (k : Int) ≤ (cap : Int) := by omega
      have HB := Lib.hid hB
      clear hB hL
      go_wp2_with fail
      have hS0 : Below wr.heap.size wr wr.drew := (Below.refl _ _).drew
      have hKey : ∀ w' : World, Below wr.heap.size wr w' → w'.cell? ⟨g, k * 8, none⟩ = some (.string (es k).key) := fun w' h => (h.cell (p := ⟨g, k * 8, none⟩) hg).trans hkey
      have HT := Lib.hid (HL2.out.take hk)
      go_region_held3 (fun w' => Below wr.heap.size wr w')
        (first | (with_reducible exact hS0) | (with_reducible exact chain7 hk2) | (with_reducible exact belowOn hk2 (below_alloc _ _)) | (with_reducible exact hk2) | (with_reducible exact Below.drew (below_alloc _ _)))
        (first
          | (go_at_call 12; refine (HCL.out _ (HT.out.on (by assumption))).mono ?_; rintro r w2 ⟨rfl, hb2⟩; have hk2 := belowOn (by assumption) hb2; obtain ⟨q0, q1⟩ := held_cells hb2))
      all_goals
        cases B
        · go_wp2
          all_goals
            refine ⟨⟨k + 1, by omega, by simp, ?_, belowOn HBel.out (by first | (with_reducible exact chain7 hk2) | (with_reducible exact belowOn hk2 (below_alloc _ _)))⟩, by simp [intOf]; omega⟩
            have hb := HB.out
            have hq := HQ.out
            simp [keysN, ← hb, ← hq]
        · go_wp2
          all_goals
            refine ⟨⟨k + 1, by omega, by simp, ?_, belowOn HBel.out (by first | (with_reducible exact chain7 hk2) | (with_reducible exact belowOn hk2 (below_alloc _ _)))⟩, by simp [intOf]; omega⟩
            have hb := HB.out
            have hq := HQ.out
            simp [keysN, ← hb, ← hq]
    · have hkn' : k = n := by omega
      subst hkn'
      go_wp2
      go_ret
      exact ⟨by rw [HV.out, HQ.out]; rfl, HBel.out⟩
end Go.Proofs.YtnggkkdcddpjlaaGreatDoor
