/- FnCastMapBools: a map's values cast to bools, one by one and as a map: for every list of entries the law returns true. No condition but the row's own: the listed package-level variables start as the program's text lays them (the card ties them). -/
import Derived.Test.YtnggkkdcddpjlaaGreatDoorR0
import Derived.Test.YtnggkkdcddpjlaaGreatDoorR1
import Derived.Test.YtnggkkdcddpjlaaGreatDoorFMapBools
namespace Go.Proofs.YtnggkkdcddpjlaaGreatDoor.MapBools
open Go.ChangeShapes Go.WideShapes Go.ChangeAt Go.RowKit
set_option maxRecDepth 100000

theorem lifted (os : Os) (started : os.Started) (H : Type) (enc : TypeId × Value → H) :
    ReturnsInHanded {} Tryz.checked os 3 .any (fun w args => (Rows.fnCastMapBoolsSpec.pre enc Tryz.prog Tryz.f3 Rows.fnCastMapBoolsRow.domain false w args ∧ laidMetH Tryz.prog Rows.fnCastMapBoolsRow.laid w) ∧ sizedMet enc Tryz.prog Tryz.f3 (OpenSpec.ofChange Rows.fnCastMapBoolsSpec) false w args)
      (Rows.fnCastMapBoolsSpec.post enc Tryz.prog Tryz.f3 false true false false) := by
  refine returnsInHanded_of_change_and (C := Tryz.checked) (X := fun w _ => laidMetH Tryz.prog Rows.fnCastMapBoolsRow.laid w) (fun _ _ _ hh h => h.of_heap hh) own started (by kernel_rfl) Tryz.func3
    (ChangeSpec.witness_shaped (enc := enc) (C := Tryz.checked) (os := os) (X := fun w _ => laidMetH Tryz.prog Rows.fnCastMapBoolsRow.laid w) false (World.laidAll Tryz.prog os Rows.fnCastMapBoolsRow.laid) #[.slice none 0 0] 8 (World.laidAll_os _ _ _)
      (World.shaped_of_ZipB (by kernel_rfl) (by kernel_rfl)) (by kernel_rfl) (by kernel_rfl) (by kernel_rfl)
      (by rw [MakeChecks.laidMetH_plain _ _ _ (by kernel_rfl)]; exact laidMet_laidAll _ (by kernel_rfl) (by kernel_rfl))) ?_
  intro W base args ds gs before hval0 hW hc _ hL _
  have hval : ∀ (j : Nat) t v, Tryz.f3.params[j]? = some t → args[j]? = some v → Value.okWide Tryz.prog W .any base t v := hval0
  have hW' := hW
  obtain ⟨p, q, hA0, hV, rfl, _, _⟩ := hW
  have hA : DataW.TrodAll enc Tryz.prog W 0 (fun _ => true) true Tryz.f3.params.toList args.toList ds p := hA0
  rw [Tryz.params3] at hA hval
  obtain ⟨v0, d0, rfl, rfl, h0⟩ := trodAll_one hA
  obtain ⟨rfl, rfl⟩ := trodVars_none hV
  have hg := good_of_list hL
  obtain ⟨a, len, cap, rfl, hP⟩ := open_entries hg (hval 0 22 v0 rfl rfl) h0
  simp only [List.append_nil] at hW'
  have hlt : ∀ x ∈ p, x.block < W.heap.size := fun x hx => by simpa using hW'.lt x hx
  refine (law_mapBools a len cap W hg hP).mono fun e W' ⟨he, hw⟩ => ?_
  subst he
  exact ⟨_, rfl, _, _, _, [], p, [], hW', trodAll_mk1 (shut_bool Tryz.underlying4 _), trodAll_mk1 (Below.trod Facts.laidOut (by kernel_rfl) (of_decide_eq_true (by kernel_rfl)) h0 hw hlt), rfl, hw.frame _, fun h => by cases h⟩

theorem said : Rows.FnCastMapBoolsSaid :=
  OpenClaim.holds_of_wide 3 Tryz.f3 rfl rfl rfl rfl rfl rfl rfl ⟨rfl, rfl, rfl, rfl, rfl⟩ rfl rfl rfl rfl rfl named_func Tryz.func3 closed
    (of_decide_eq_true (by kernel_rfl)) (by unfold Func.isWrapper; first | (rw [if_pos (by decide +kernel)]; kernel_rfl) | (rw [if_neg (by decide +kernel)]; exact ⟨rfl, rfl⟩))
    (fun os started H enc _ => lifted os started H enc)
theorem plain (f : FuncId) (fn : Func) (hf : Tryz.pinned.checked.prog.funcNamed "pub-ensign/laws.FnCastMapBools" = some f) (hfn : Tryz.pinned.checked.prog.funcs[f]? = some fn) :
    true = Tryz.pinned.checked.prog.looks [] ∧ ∀ (j : Nat) t, fn.params[j]? = some t → Tryz.pinned.checked.prog.wantsStandIn t = false := by
  obtain rfl : f = 3 := Option.some.inj (named_func.symm.trans hf) |>.symm
  obtain rfl : fn = Tryz.f3 := (Option.some.inj (Tryz.func3.symm.trans hfn)).symm
  refine ⟨looks, fun j t ht => ?_⟩
  rw [Tryz.params3] at ht
  have hm : t ∈ [22] := by simpa using Array.mem_of_getElem? ht
  have hall : ([22].all fun u => !Tryz.prog.wantsStandIn u) = true := by kernel_rfl
  exact (show Tryz.prog.wantsStandIn t = false by simpa using List.all_eq_true.1 hall t hm)
theorem card : Rows.FnCastMapBoolsCardSaid :=
  Claim7.holds_tied_plain_at .later [] _ _ _ _ said (fun _ h => by cases h) (by kernel_rfl) (fun _ h => by cases h) fnCastMapBools_row_tie rfl ⟨rfl, rfl⟩ (by kernel_rfl) rfl plain (by kernel_rfl)
end Go.Proofs.YtnggkkdcddpjlaaGreatDoor.MapBools
namespace Go.Proofs.YtnggkkdcddpjlaaGreatDoor
theorem fnCastMapBools_holds : Rows.FnCastMapBoolsCardSaid := MapBools.card
#print axioms fnCastMapBools_holds
end Go.Proofs.YtnggkkdcddpjlaaGreatDoor
