/- The law FnCastMapSame: its walk. -/
import Derived.Test.YtnggkkdcddpjlaaGreatDoorE4
import Derived.Test.YtnggkkdcddpjlaaGreatDoorR3
namespace Go.Proofs.YtnggkkdcddpjlaaGreatDoor
open Go.RowKit
set_option maxRecDepth 100000
set_option linter.unusedVariables false
theorem lk_val {T E : TypeId} (hT : Tryz.prog.underlying T = some (.map 9 E)) {z : Value} (hz : ∀ w, (zeroValue E).run Tryz.prog w = .ok z w) {w : World} {O : Nat} {m : Pairs} {k : ByteArray} {v : Value} (hm : w.heap[O]? = some (mobj m)) (h : lk2 k m = some v) :
    (Instr.lookup T (.map (some O)) (.string k) false).run Tryz.prog w = .ok v w := by
  rw [run_lk hT Tryz.underlying9 z hz w O m k hm]
  unfold lk2 at h
  rw [h]
  rfl
theorem got_len {T E : TypeId} (hT : Tryz.prog.underlying T = some (.map 9 E)) {w : World} {O : Nat} {m : Pairs} {es : Nat → Ent} {n : Nat} {F : Ent → Value} (hm : w.heap[O]? = some (mobj m)) (h : GotF es n F m) (ty : TypeId) :
    (Builtin.len_ #[T] ty #[.map (some O)]).run Tryz.prog w = .ok (.int .i64 (keysN es n)) w := by
  rw [← h.len]
  exact run_mapLen hT w O m hm ty
set_option maxHeartbeats 1000000 in
theorem law_mapSame (p : Option Addr) (len cap : Nat) (w : World) (hg : Good2 w) (hP : Pairs8N w (.slice p len cap)) :
    Calls Tryz.prog 5 #[.slice p len cap] w fun r w' => r = .returned (.bool true) ∧ Below w.heap.size w w' := by
  have HP := Lib.hid hP
  have HG := Lib.hid hg
  clear hP hg
  by_cases hlen : (2147483647 : Int) < (len : Int)
  · go_enter Tryz.func5, Tryz.ntmps5
    go_wp2
    go_ret
    exact ⟨rfl, Below.refl _ _⟩
  go_enter Tryz.func5, Tryz.ntmps5
  go_wp2_with (first
    | (go_at_call 8; refine HP.out.mono ?_; rintro r w1 ⟨q, n, cp, es, rfl, hL, hF, hN, hb1⟩; have HL := Lib.hid hL; have HF := Lib.hid hF; have HN := Lib.hid hN; have HB1 := Lib.hid hb1; have HG1 := Lib.hid (HG.out.on hb1); have h1 := hL.le; have h2 := hL.n60; clear hL hF hN hb1)
    | (go_at_call 19; refine (door_s q n cp es _ HL.out HF.out).mono ?_; rintro r w2 ⟨O1, m1, rfl, hO1, hm1, hgot1, hb2⟩; have HM1 := Lib.hid hm1; have HGo1 := Lib.hid hgot1; have HL2 := Lib.hid (HL.out.on hb2); have HG2 := Lib.hid (HG1.out.on hb2); have HB2 := Lib.hid (belowOn HB1.out hb2); clear hm1 hgot1 hb2 hO1)
    | (go_at_call 20; refine (door_i q n cp es _ HG2.out HL2.out HF.out).mono ?_; rintro r w3 ⟨O2, m2, rfl, hO2, hm2, hgot2, hb3⟩; have HM13 := Lib.hid (held_on HM1.out hb3); have HM2 := Lib.hid hm2; have HGo2 := Lib.hid hgot2; have HL3 := Lib.hid (HL2.out.on hb3); have HG3 := Lib.hid (HG2.out.on hb3); have HB3 := Lib.hid (belowOn HB2.out hb3); clear hm2 hgot2 hb3 hO2)
    | (go_at_call 10; refine (door_b q n cp es _ HL3.out HF.out).mono ?_; rintro r w4 ⟨O3, m3, rfl, hO3, hm3, hgot3, hb4⟩; have HM14 := Lib.hid (held_on HM13.out hb4); have HM24 := Lib.hid (held_on HM2.out hb4); have HM3 := Lib.hid hm3; have HGo3 := Lib.hid hgot3; have HL4 := Lib.hid (HL3.out.on hb4); have HG4 := Lib.hid (HG3.out.on hb4); have HB4 := Lib.hid (belowOn HB3.out hb4); clear hm3 hgot3 hb4 hO3)
    | (go_at_call 21; refine (door_a q n cp es _ HG4.out HL4.out HF.out HN.out).mono ?_; rintro r w5 ⟨O4, m4, rfl, hO4, hm4, hgot4, hb5⟩; have HM15 := Lib.hid (held_on HM14.out hb5); have HM25 := Lib.hid (held_on HM24.out hb5); have HM35 := Lib.hid (held_on HM3.out hb5); have HM4 := Lib.hid hm4; have HGo4 := Lib.hid hgot4; have HL5 := Lib.hid (HL4.out.on hb5); have HG5 := Lib.hid (HG4.out.on hb5); have HB5 := Lib.hid (belowOn HB4.out hb5); clear hm4 hgot4 hb5 hO4)
    | (go_at_call 11; refine (cast_keys q n cp es _ HL5.out).mono ?_; rintro r w6 ⟨rfl, hb6⟩; have HM16 := Lib.hid (held_on HM15.out hb6); have HM26 := Lib.hid (held_on HM25.out hb6); have HM36 := Lib.hid (held_on HM35.out hb6); have HM46 := Lib.hid (held_on HM4.out hb6); have HL6 := Lib.hid (HL5.out.on hb6); have HG6 := Lib.hid (HG5.out.on hb6); have HB6 := Lib.hid (belowOn HB5.out hb6); clear hb6;
        have hl1 := fun ty => got_len Tryz.underlying49 HM16.out HGo1.out ty;
        have hl2 := fun ty => got_len Tryz.underlying52 HM26.out HGo2.out ty;
        have hl3 := fun ty => got_len Tryz.underlying33 HM36.out HGo3.out ty;
        have hl4 := fun ty => got_len Tryz.underlying49 HM46.out HGo4.out ty;
        generalize keysN es n = kn at hl1 hl2 hl3 hl4 ⊢))
  clear hl1 hl2 hl3 hl4
  go_loopw [87] (fun i wr => ∃ j : Nat, j ≤ n ∧ i = .int .i64 j ∧ Below w6.heap.size w6 wr) (fun i _ => n - (intOf i).toNat)
  case atStart => exact ⟨0, Nat.zero_le _, rfl, Below.refl _ _⟩
  case round =>
    obtain ⟨j, hj, rfl, hb⟩ := hrel
    have HBr := Lib.hid hb
    have HLr := Lib.hid (HL6.out.on hb)
    have HGr := Lib.hid (HG6.out.on hb)
    have HMr1 := Lib.hid (held_on HM16.out hb)
    have HMr2 := Lib.hid (held_on HM26.out hb)
    have HMr3 := Lib.hid (held_on HM36.out hb)
    have HMr4 := Lib.hid (held_on HM46.out hb)
    clear hb
    by_cases hjk : j < n
    · obtain ⟨g, rfl, hg, hc⟩ := HLr.out.at0 (by omega)
      have HR := Lib.hid (hc j hjk)
      obtain ⟨e', hlast, hF', hN'⟩ := last_some es (fun e => e.Fine ∧ e.Nice) n (fun j hj => ⟨HF.out j hj, HN.out j hj⟩) j hjk
      have hCL := fun w hL => cast_last (some ⟨g, 0, none⟩) n cp es (es j).key w hL
      have hk1 := HGo1.out.look (es j).key
      have hk2 := HGo2.out.look (es j).key
      have hk3 := HGo3.out.look (es j).key
      have hk4 := HGo4.out.look (es j).key
      unfold lastAny at hCL
      rw [hlast] at hCL hk1 hk2 hk3 hk4
      have hT := fun w hg => castStr_any e' hF' hN' w hg
      have HT := Lib.hid hT
      have HCL := Lib.hid hCL
      have HK := Lib.hid (And.intro hk1 (And.intro hk2 (And.intro hk3 hk4)))
      clear hT hCL hk1 hk2 hk3 hk4 hlast hF' hN'
      generalize hE : es j = e at HR HK HCL
      clear hc hE
      have hj0 : (0 : Int) ≤ (j : Int) := by omega
      have hj1 : (j : Int) < (n : Int) := by omega
      go_wp2_with (first | (refine wpList_load_mid rfl 30 _ rfl g (j * 8) rfl _ _ HR.out Tryz.underlying30 rfl size30 ?_) | (refine wpList_store_row rfl 30 _ _ rfl wr.heap.size e.cells.toArray rfl rfl 30 _ (heap_alloc_new _ _) size30 rfl (by simp [Value.oneCell']) ?_; refine Hid.out ?_))
      generalize hWW : World.setRow _ _ _ = W
      have hrow : W.heap[wr.heap.size]? = some (.cells e.cells.toArray 30 (0, 0)) := by rw [← hWW]; exact setRow_heap _ _ _ _ _ _ (heap_alloc_new _ _)
      have hWb : Below wr.heap.size wr W := by rw [← hWW]; exact below_setRow (below_alloc wr _) (Nat.le_refl _) _
      clear hWW HR
      have hkey := row_key hrow
      have HRow := Lib.hid hrow
      have HWb := Lib.hid hWb
      have HLW := Lib.hid (HLr.out.on hWb)
      clear hrow hWb HLr
      refine Lib.hid ?_
      go_wp2_with (first | (go_at_call 12; refine (HCL.out _ HLW.out).mono ?_; rintro r w7 ⟨rfl, hb7⟩) | (refine wpList_store_row rfl 28 _ _ rfl w7.heap.size (anyC e'.k e'.i e'.u e'.f e'.s (.slice none 0 0) (.slice none 0 0)) rfl rfl 28 _ (heap_alloc_new _ _) size28 rfl (one_any _ _ _ _ _ rfl rfl) ?_; refine Hid.out ?_))
      generalize hWW : World.setRow _ _ _ = W2
      have hrow2 : W2.heap[w7.heap.size]? = some (.cells (anyC e'.k e'.i e'.u e'.f e'.s (.slice none 0 0) (.slice none 0 0)) 28 (0, 0)) := by rw [← hWW]; exact setRow_heap _ _ _ _ _ _ (heap_alloc_new _ _)
      have hWb2 : Below w7.heap.size w7 W2 := by rw [← hWW]; exact below_setRow (below_alloc w7 _) (Nat.le_refl _) _
      clear hWW hkey
      have hb5 := belowOn hb7 hWb2
      have HB5 := Lib.hid (belowOn HWb.out hb5)
      have HB7 := Lib.hid (belowOn HBr.out HB5.out)
      have HG7 := Lib.hid (HGr.out.on HB5.out)
      have hq : ∀ (i : Nat) (v : Value), (anyC e'.k e'.i e'.u e'.f e'.s (.slice none 0 0) (.slice none 0 0))[i]? = some v → ∀ w' : World, Below W2.heap.size W2 w' → w'.cell? ⟨w7.heap.size, i, none⟩ = some v := fun i v hv w' hb => by
        rw [cell_of_row w' _ _ _ _ _ (held_on hrow2 hb)]
        exact hv
      have hq0 := hq 0 _ rfl
      have hq1 := hq 1 _ rfl
      have hq2 := hq 2 _ rfl
      have hq3 := hq 3 _ rfl
      have hq4 := hq 4 _ rfl
      have hq5 := hq 5 _ rfl
      have hq6 := hq 6 _ rfl
      have hkey : ∀ w' : World, Below W2.heap.size W2 w' → w'.cell? ⟨wr.heap.size, 0, none⟩ = some (.string e.key) := fun w' hb => row_key (held_on (held_on HRow.out hb5) hb)
      have hx1 : ∀ w' : World, Below W2.heap.size W2 w' → (Instr.lookup 49 (.map (some O1)) (.string e.key) false).run Tryz.prog w' = .ok (.string e'.s) w' := fun w' hb => lk_val Tryz.underlying49 z_9 (held_on (held_on HMr1.out HB5.out) hb) HK.out.1
      have hx2 : ∀ w' : World, Below W2.heap.size W2 w' → (Instr.lookup 52 (.map (some O2)) (.string e.key) false).run Tryz.prog w' = .ok (.int .i64 e'.i) w' := fun w' hb => lk_val Tryz.underlying52 z_2 (held_on (held_on HMr2.out HB5.out) hb) HK.out.2.1
      have hx3 : ∀ w' : World, Below W2.heap.size W2 w' → (Instr.lookup 33 (.map (some O3)) (.string e.key) false).run Tryz.prog w' = .ok (.bool (e'.i != 0)) w' := fun w' hb => lk_val Tryz.underlying33 z_4 (held_on (held_on HMr3.out HB5.out) hb) HK.out.2.2.1
      have hx4 : ∀ w' : World, Below W2.heap.size W2 w' → (Instr.lookup 49 (.map (some O4)) (.string e.key) false).run Tryz.prog w' = .ok (.string (strOf e'.box)) w' := fun w' hb => lk_val Tryz.underlying49 z_9 (held_on (held_on HMr4.out HB5.out) hb) HK.out.2.2.2
      unfold strF at HT
      generalize strOf e'.box = t at hx4 HT
      obtain ⟨nz, hnz⟩ : ∃ b, (e'.i != 0) = b := ⟨_, rfl⟩
      rw [hnz] at hx3
      clear hb7 hWb2 hb5 hrow2 HRow HWb HLW HCL HMr1 HMr2 HMr3 HMr4 HK hq
      refine Lib.hid ?_
      go_wp2_with fail
      have hS0 : Below W2.heap.size W2 W2.drew := (Below.refl _ _).drew
      go_region_held3 (fun w' => Below W2.heap.size W2 w')
        (first | (with_reducible exact hS0) | (with_reducible exact hk3))
        (first
          | (go_at_call 22; refine (HT.out _ (HG7.out.on (by assumption))).mono ?_; rintro r w8 ⟨rfl, hb8⟩; have hk3 := belowOn (by assumption) hb8))
      all_goals
        have HK3 := Lib.hid (belowOn HBr.out (belowOn HB5.out hk3))
        go_wp2
        all_goals exact ⟨⟨j + 1, by omega, by simp, HK3.out⟩, by simp [intOf]; omega⟩
    · have hjk' : j = n := by omega
      subst hjk'
      go_wp2
      go_ret
      exact ⟨rfl, belowOn HB6.out HBr.out⟩
end Go.Proofs.YtnggkkdcddpjlaaGreatDoor
