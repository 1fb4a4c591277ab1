/- The law FnCastMapBools: its walk. -/
import Derived.Test.YtnggkkdcddpjlaaGreatDoorC11
import Derived.Test.YtnggkkdcddpjlaaGreatDoorFF
namespace Go.Proofs.YtnggkkdcddpjlaaGreatDoor
open Go.RowKit
set_option maxRecDepth 100000
set_option linter.unusedVariables false
/-- What castPairs is to give of an argument. -/
def Pairs8 (w : World) (v : Value) : Prop :=
  Calls Tryz.prog 8 #[v] w fun r w' => ∃ p n cap es, r = .returned (.slice p n cap) ∧ Lst w' p n cap es ∧ (∀ j, j < n → (es j).Fine) ∧ Below w.heap.size w w'
theorem last_some (es : Nat → Ent) (F : Ent → Prop) : ∀ n, (∀ j, j < n → F (es j)) → ∀ k, k < n → ∃ e, last es (es k).key n = some e ∧ F e
  | 0, _, k, h => by omega
  | n + 1, hF, k, h => by
    unfold last
    by_cases hk : (es n).key = (es k).key
    · rw [if_pos hk]; exact ⟨_, rfl, hF n (by omega)⟩
    · rw [if_neg hk]
      exact last_some es F n (fun j hj => hF j (by omega)) k (by
        rcases Nat.lt_or_ge k n with h1 | h1
        · exact h1
        · have : k = n := by omega
          subst this
          exact absurd rfl hk)
theorem row_any {w : World} {xb : Nat} {e : Ent} (h : w.heap[xb]? = some (.cells e.cells.toArray 30 (0, 0))) : w.rangeAt xb 1 [.int .i64 e.k, .int .i64 e.i, .int .u64 e.u, .float .f64 e.f, .string e.s, .slice none 0 0, .slice none 0 0] := fun j v hv => by
  rw [cell_of_row w xb _ _ _ _ h, ← hv, Nat.add_comm]
  simp
theorem row_key {w : World} {xb : Nat} {e : Ent} (h : w.heap[xb]? = some (.cells e.cells.toArray 30 (0, 0))) : w.cell? ⟨xb, 0, none⟩ = some (.string e.key) := by simp [World.cell?, h]
theorem law_mapBools (p : Option Addr) (len cap : Nat) (w : World) (hg : Good w) (hP : Pairs8 w (.slice p len cap)) :
    Calls Tryz.prog 3 #[.slice p len cap] w fun r w' => r = .returned (.bool true) ∧ Below w.heap.size w w' := by
  have HP := Lib.hid hP
  have HG := Lib.hid hg
  clear hP hg
  by_cases hlen : (2147483647 : Int) < (len : Int)
  · go_enter Tryz.func3, Tryz.ntmps3
    go_wp2
    go_ret
    exact ⟨rfl, Below.refl _ _⟩
  go_enter Tryz.func3, Tryz.ntmps3
  go_wp2_with (go_at_call 8; refine HP.out.mono ?_; rintro r w1 ⟨q, n, cp, es, rfl, hL, hF, hb1⟩)
  have h1 := hL.le
  have h2 := hL.n60
  have HL := Lib.hid hL
  have HF := Lib.hid hF
  have HB1 := Lib.hid hb1
  clear hL hF hb1 HP
  go_loopw [22] (fun i wr => ∃ k : Nat, k ≤ n ∧ i = .int .i64 k ∧ Below w1.heap.size w1 wr) (fun i _ => n - (intOf i).toNat)
  case atStart => exact ⟨0, Nat.zero_le _, rfl, Below.refl _ _⟩
  case round =>
    obtain ⟨k, hk, rfl, hb⟩ := hrel
    have HBel := Lib.hid hb
    have HL2 := Lib.hid (HL.out.on hb)
    clear hb
    by_cases hkn : k < n
    · obtain ⟨g, rfl, hg, hc⟩ := HL2.out.at0 (by omega)
      have HR := Lib.hid (hc k hkn)
      have HFk := HF.out k hkn
      generalize hE : es k = e at HR HFk
      have HFk := Lib.hid HFk
      clear hc hE
      have hj0 : (0 : Int) ≤ (k : Int) := by omega
      have hj1 : (k : Int) < (n : Int) := by omega
      go_wp2_with (first | (refine wpList_load_mid rfl 30 _ rfl g (k * 8) rfl _ _ HR.out Tryz.underlying30 rfl size30 ?_) | (refine wpList_store_row rfl 30 _ _ rfl wr.heap.size e.cells.toArray rfl rfl 30 _ (heap_alloc_new _ _) size30 rfl (by simp [Value.oneCell']) ?_; refine Hid.out ?_))
      generalize hWW : World.setRow _ _ _ = W
      have hrow : W.heap[wr.heap.size]? = some (.cells e.cells.toArray 30 (0, 0)) := by rw [← hWW]; exact setRow_heap _ _ _ _ _ _ (heap_alloc_new _ _)
      have hWb : Below wr.heap.size wr W := by rw [← hWW]; exact below_setRow (below_alloc wr _) (Nat.le_refl _) _
      clear hWW HR
      have HRow := Lib.hid (row_any hrow)
      have HWb := Lib.hid hWb
      have HGW := Lib.hid (((HG.out.on HB1.out).on HBel.out).on hWb)
      clear hrow hWb
      refine Lib.hid ?_
      have hT := toBool_any e HFk.out
      obtain ⟨bv, hbv⟩ : ∃ b, b = e.bv := ⟨_, rfl⟩
      obtain ⟨ok, hok⟩ : ∃ b, b = e.bool?.isSome := ⟨_, rfl⟩
      rw [← hbv, ← hok] at hT
      have HT := Lib.hid hT
      clear hT hbv hok
      cases ok
      · go_wp2_with (first | (refine wpList_load_mid rfl 28 _ rfl wr.heap.size 1 rfl _ _ HRow.out Tryz.underlying28 rfl size28 ?_) | (go_at_call 9; refine (HT.out _ HGW.out).mono ?_; rintro r w3 ⟨rfl, hb3⟩))
        all_goals
          go_ret
          exact ⟨rfl, belowOn HB1.out (belowOn HBel.out (belowOn HWb.out hb3))⟩
      · go_wp2_with (first | (refine wpList_load_mid rfl 28 _ rfl wr.heap.size 1 rfl _ _ HRow.out Tryz.underlying28 rfl size28 ?_) | (go_at_call 9; refine (HT.out _ HGW.out).mono ?_; rintro r w3 ⟨rfl, hb3⟩))
        all_goals exact ⟨⟨k + 1, by omega, by simp, belowOn HBel.out (belowOn HWb.out hb3)⟩, by simp [intOf]; omega⟩
    · have hkn' : k = n := by omega
      subst hkn'
      have HMB := Lib.hid (fun w hg hL => map_bool q k cp es w hg hL HF.out)
      have HCK := Lib.hid (fun w hL => cast_keys q k cp es w hL)
      have HGr := Lib.hid ((HG.out.on HB1.out).on HBel.out)
      obtain ⟨kn, hkn0⟩ : ∃ kn, kn = keysN es k := ⟨_, rfl⟩
      rw [← hkn0] at HCK
      have HKN := Lib.hid hkn0
      clear hkn0
      go_wp2_with (first | (go_at_call 10; refine (HMB.out _ HGr.out HL2.out).mono ?_; rintro r w2 ⟨O, m, rfl, hO, hm, hgot, hb2⟩; have hlen2 : ∀ w' ty, w'.heap[O]? = some (mobj m) → (Builtin.len_ #[33] ty #[.map (some O)]).run Tryz.prog w' = .ok (.int .i64 kn) w' := (fun w' ty h => by rw [HKN.out, ← hgot.len]; exact run_mapLen Tryz.underlying33 w' O m h ty)) | (go_at_call 11; refine (HCK.out _ (HL2.out.on hb2)).mono ?_; rintro r w4 ⟨rfl, hb4⟩))
      clear hlen2
      have HL4 := Lib.hid ((HL2.out.on hb2).on hb4)
      have HG4 := Lib.hid ((HGr.out.on hb2).on hb4)
      have HM4 := Lib.hid (held_on hm hb4)
      have HB4 := Lib.hid (belowOn HB1.out (belowOn HBel.out (belowOn hb2 hb4)))
      have HGot := Lib.hid hgot
      clear hm hgot hb2 hb4 hO HMB HCK HKN HL2 HGr HG HL HBel HB1
      go_loopw [52] (fun i wr => ∃ j : Nat, j ≤ k ∧ i = .int .i64 j ∧ Below w4.heap.size w4 wr) (fun i _ => k - (intOf i).toNat)
      case atStart => exact ⟨0, Nat.zero_le _, rfl, Below.refl _ _⟩
      case round =>
        obtain ⟨j, hj, rfl, hb⟩ := hrel
        have HBr := Lib.hid hb
        have HLr := Lib.hid (HL4.out.on hb)
        have HMr := Lib.hid (held_on HM4.out hb)
        have HGr := Lib.hid (HG4.out.on hb)
        clear hb HL4 HM4 HG4
        by_cases hjk : j < k
        · obtain ⟨g, rfl, hg, hc⟩ := HLr.out.at0 (by omega)
          have HR := Lib.hid (hc j hjk)
          obtain ⟨e', hlast, hF'⟩ := last_some es Ent.Fine k HF.out j hjk
          have hCL := fun w hL => cast_last (some ⟨g, 0, none⟩) k cp es (es j).key w hL
          have hlk := HGot.out.look (es j).key
          unfold lastAny at hCL
          rw [hlast] at hCL hlk
          have hlk2 : lk2 (es j).key m = some (.bool e'.bv) := by rw [hlk]; show some (boolF e'.box) = _; unfold boolF; rw [boxB_box e' hF']
          have hT := castBool_any e' hF'
          obtain ⟨bv, hbv⟩ : ∃ b, b = e'.bv := ⟨_, rfl⟩
          rw [← hbv] at hT hlk2
          have HT := Lib.hid hT
          have HLK := Lib.hid hlk2
          have HCL := Lib.hid hCL
          clear hT hlk2 hlk hCL hbv hlast
          generalize hE : es j = e at HR HLK HCL
          clear hc hE
          have hj0 : (0 : Int) ≤ (j : Int) := by omega
          have hj1 : (j : Int) < (k : Int) := by omega
          go_wp2_with (first | (refine wpList_load_mid rfl 30 _ rfl g (j * 8) rfl _ _ HR.out Tryz.underlying30 rfl size30 ?_) | (refine wpList_store_row rfl 30 _ _ rfl wr.heap.size e.cells.toArray rfl rfl 30 _ (heap_alloc_new _ _) size30 rfl (by simp [Value.oneCell']) ?_; refine Hid.out ?_))
          generalize hWW : World.setRow _ _ _ = W
          have hrow : W.heap[wr.heap.size]? = some (.cells e.cells.toArray 30 (0, 0)) := by rw [← hWW]; exact setRow_heap _ _ _ _ _ _ (heap_alloc_new _ _)
          have hWb : Below wr.heap.size wr W := by rw [← hWW]; exact below_setRow (below_alloc wr _) (Nat.le_refl _) _
          clear hWW HR
          have hkey := row_key hrow
          have HRow := Lib.hid hrow
          have HWb := Lib.hid hWb
          have HLW := Lib.hid (HLr.out.on hWb)
          clear hrow hWb HLr
          refine Lib.hid ?_
          go_wp2_with (first | (go_at_call 12; refine (HCL.out _ HLW.out).mono ?_; rintro r w3 ⟨rfl, hb3⟩) | (refine wpList_store_row rfl 28 _ _ rfl w3.heap.size (anyC e'.k e'.i e'.u e'.f e'.s (.slice none 0 0) (.slice none 0 0)) rfl rfl 28 _ (heap_alloc_new _ _) size28 rfl (one_any _ _ _ _ _ rfl rfl) ?_; refine Hid.out ?_))
          generalize hWW : World.setRow _ _ _ = W2
          have hrow2 : W2.heap[w3.heap.size]? = some (.cells (anyC e'.k e'.i e'.u e'.f e'.s (.slice none 0 0) (.slice none 0 0)) 28 (0, 0)) := by rw [← hWW]; exact setRow_heap _ _ _ _ _ _ (heap_alloc_new _ _)
          have hWb2 : Below w3.heap.size w3 W2 := by rw [← hWW]; exact below_setRow (below_alloc w3 _) (Nat.le_refl _) _
          clear hWW hkey
          have hb5 := belowOn hb3 hWb2
          have hkey := row_key (held_on HRow.out hb5)
          have HB5 := Lib.hid (belowOn HWb.out hb5)
          have hq0 : W2.cell? ⟨w3.heap.size, 0, none⟩ = some (.int .i64 e'.k) := by simp [World.cell?, hrow2]
          have hq1 : W2.cell? ⟨w3.heap.size, 1, none⟩ = some (.int .i64 e'.i) := by simp [World.cell?, hrow2]
          have hq2 : W2.cell? ⟨w3.heap.size, 2, none⟩ = some (.int .u64 e'.u) := by simp [World.cell?, hrow2]
          have hq3 : W2.cell? ⟨w3.heap.size, 3, none⟩ = some (.float .f64 e'.f) := by simp [World.cell?, hrow2]
          have hq4 : W2.cell? ⟨w3.heap.size, 4, none⟩ = some (.string e'.s) := by simp [World.cell?, hrow2]
          have hq5 : W2.cell? ⟨w3.heap.size, 5, none⟩ = some (.slice none 0 0) := by simp [World.cell?, hrow2]
          have hq6 : W2.cell? ⟨w3.heap.size, 6, none⟩ = some (.slice none 0 0) := by simp [World.cell?, hrow2]
          have hmm := held_on (held_on HMr.out HWb.out) hb5
          have hG5 := (HGr.out.on HWb.out).on hb5
          have HG5 := Lib.hid hG5
          have hLk : (Instr.lookup 33 (.map (some O)) (.string e.key) true).run Tryz.prog W2 = .ok (.tuple #[.bool bv, .bool true]) W2 := by
            rw [run_lkOk Tryz.underlying33 Tryz.underlying9 (.bool false) z_4 W2 O m e.key hmm]
            have h := HLK.out
            unfold lk2 at h
            cases hq : lk e.key m with
            | none => rw [hq] at h; cases h
            | some x => rw [hq] at h; simp only [Option.map_some, Option.some.injEq] at h; simp [h]
          clear hb3 hWb2 hb5 hrow2 hmm hG5 HRow HWb HLW HMr HLK HCL
          refine Lib.hid ?_
          go_wp2_with (go_at_call 13; refine (HT.out _ HG5.out).mono ?_; rintro r w6 ⟨rfl, hb6⟩)
          exact ⟨⟨j + 1, by omega, by simp, belowOn HBr.out (belowOn HB5.out hb6)⟩, by simp [intOf]; omega⟩
        · have hjk' : j = k := by omega
          subst hjk'
          go_wp2
          go_ret
          exact ⟨rfl, belowOn HB4.out HBr.out⟩
end Go.Proofs.YtnggkkdcddpjlaaGreatDoor
