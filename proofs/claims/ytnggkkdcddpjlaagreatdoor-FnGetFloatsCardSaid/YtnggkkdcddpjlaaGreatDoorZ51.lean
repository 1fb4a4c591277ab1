/- FnGetFloats: behind each text that a flag is set to, GetFloat32 and GetFloat64 tell the float that the flag's Value tells, with an error just where that has one: for every number of bits, every float as the flag's default and every list of texts the law returns true. No condition but the row's own: the listed package-level variables start as the program's text lays them (the card ties them). Closed facts of the program that each row's form asks: the kernel reckons each alone. The closed facts of GetFloats's row, the kernel reckoning each alone. -/
import Derived.Test.YtnggkkdcddpjlaaGreatDoorZ50
import Derived.JoinedOf
namespace Go.Proofs.YtnggkkdcddpjlaaGreatDoor.Facts
open Go
set_option maxRecDepth 100000
theorem laidOut : laidOutB Tryz.prog = true := by kernel_rfl
theorem mapsRowed : mapsRowed Tryz.prog = true := by kernel_rfl
theorem stops : (Tryz.prog.stops == []) = true := by kernel_rfl
theorem stopKnobs : (Tryz.prog.stopKnobs == []) = true := by kernel_rfl
theorem stopsHeard : Tryz.prog.stopsHeard = true := by kernel_rfl
theorem mayEnter : Tryz.prog.mayEnter = true := by kernel_rfl
end Go.Proofs.YtnggkkdcddpjlaaGreatDoor.Facts
namespace Go.Proofs.YtnggkkdcddpjlaaGreatDoor.GetFloats
open Go
set_option maxRecDepth 100000
theorem c_wf : (Rows.fnGetFloatsRow.wf (OpenSpec.ofChange Rows.fnGetFloatsSpec)) = true := by kernel_rfl
theorem c_params : (Tryz.f7.params.all (Tryz.prog.readableRec ·)) = true := by kernel_rfl
theorem c_namedTie : (namedTie Tryz.prog Rows.fnGetFloatsRow.named Rows.fnGetFloatsSpec.vars) = true := by kernel_rfl
theorem c_cstops : ((Rows.fnGetFloatsRow.stops == [])) = true := by kernel_rfl
theorem c_knobs : ((Rows.fnGetFloatsRow.knobs == [])) = true := by kernel_rfl
theorem c_inPlace : ((Rows.fnGetFloatsRow.inPlace == Tryz.prog.inPlace 7)) = true := by kernel_rfl
theorem c_unfollowed : ((Rows.fnGetFloatsRow.unfollowed == Tryz.prog.unfollowed 7)) = true := by kernel_rfl
theorem c_recurses : ((Rows.fnGetFloatsRow.recurses == Tryz.prog.recurses 7)) = true := by kernel_rfl
theorem c_named : ((Rows.fnGetFloatsRow.named == Tryz.prog.varsNamed 7)) = true := by kernel_rfl
theorem c_maps : ((Rows.fnGetFloatsRow.maps == (Tryz.f7.params.toList ++ Rows.fnGetFloatsSpec.plain.varTypes Tryz.prog).any (Tryz.prog.mapsRec ·))) = true := by kernel_rfl
theorem c_ifaces : ((Rows.fnGetFloatsRow.ifaces == (Tryz.f7.params.toList ++ Rows.fnGetFloatsSpec.plain.varTypes Tryz.prog).any (Tryz.prog.ifacesRec ·))) = true := by kernel_rfl
theorem c_mapsOut : ((Rows.fnGetFloatsRow.mapsOut == Tryz.prog.mapsAmong Tryz.f7.resultTypes.toList)) = true := by kernel_rfl
theorem c_loops : ((Rows.fnGetFloatsRow.loops == (Tryz.f7.params.toList ++ Rows.fnGetFloatsSpec.plain.varTypes Tryz.prog).any (Tryz.prog.loopsFrom ·))) = true := by kernel_rfl
theorem c_wideKeys : ((Rows.fnGetFloatsRow.wideKeys == (Tryz.f7.params.toList ++ Rows.fnGetFloatsSpec.plain.varTypes Tryz.prog ++ Tryz.f7.resultTypes.toList).any (Tryz.prog.wideKeysFrom ·))) = true := by kernel_rfl
theorem c_vars : (Rows.fnGetFloatsSpec.vars.all (Tryz.prog.varReadable ·)) = true := by kernel_rfl
theorem c_results : (Tryz.f7.resultTypes.all (fun t => Tryz.prog.readableRec t && decide (t < Tryz.prog.types.size))) = true := by kernel_rfl
theorem c_ifacesOut : ((Rows.fnGetFloatsRow.ifacesOut == Tryz.f7.resultTypes.toList.any (Tryz.prog.ifacesRec ·))) = true := by kernel_rfl
theorem c_loopsOut : ((Rows.fnGetFloatsRow.loopsOut == Tryz.f7.resultTypes.toList.any (Tryz.prog.loopsFrom ·))) = true := by kernel_rfl
theorem c_plainKeys : ((Rows.fnGetFloatsRow.plainKeys == Tryz.prog.plainKeys)) = true := by kernel_rfl
theorem c_shortTexts : (Rows.fnGetFloatsRow.shortTexts.isNone) = true := by kernel_rfl
theorem c_lifted : ((Rows.fnGetFloatsRow.lifted == Tryz.prog.liftsFinal)) = true := by kernel_rfl
theorem c_make : ((Tryz.prog.make == some Rows.fnGetFloatsRow.make)) = true := by kernel_rfl
theorem c_kinds : ((Rows.fnGetFloatsRow.kinds == (if Rows.fnGetFloatsRow.domain.isEmpty then [] else Tryz.f7.params.toList.map fun t => match Tryz.prog.underlying t with | some (.int k) => some k | _ => none))) = true := by kernel_rfl
theorem c_pinned : ((Rows.fnGetFloatsRow.pinned == Rows.fnGetFloatsRow.pinnedBy)) = true := by kernel_rfl
theorem c_veiled : ((Rows.fnGetFloatsRow.veiled == (Tryz.f7.params.toList ++ Rows.fnGetFloatsSpec.plain.varTypes Tryz.prog ++ Tryz.f7.resultTypes.toList).any (Tryz.prog.veiledRec ·))) = true := by kernel_rfl
theorem c_veiledFits : (Rows.fnGetFloatsRow.veiledFits Tryz.prog Tryz.f7.params.toList (Tryz.f7.params.toList ++ Rows.fnGetFloatsSpec.plain.varTypes Tryz.prog ++ Tryz.f7.resultTypes.toList)) = true := by kernel_rfl
theorem and2 {a b : Bool} (h : a = true) (k : b = true) : (a && b) = true := by rw [h, k]; rfl
theorem closed : joinedFacts Tryz.prog 7 Tryz.f7 Rows.fnGetFloatsSpec Rows.fnGetFloatsRow = true := by
  unfold joinedFacts
  exact and2 (and2 (and2 (and2 (and2 (and2 (and2 (and2 (and2 (and2 (and2 (and2 (and2 (and2 (and2 (and2 (and2 (and2 (and2 (and2 (and2 (and2 (and2 (and2 (and2 (and2 (and2 (and2 (and2 (and2 (and2 c_wf Facts.laidOut) Facts.mapsRowed) c_params) c_namedTie) c_cstops) Facts.stops) c_knobs) Facts.stopKnobs) c_inPlace) c_unfollowed) c_recurses) c_named) c_maps) c_ifaces) c_mapsOut) c_loops) c_wideKeys) c_vars) c_results) c_ifacesOut) c_loopsOut) c_plainKeys) c_shortTexts) Facts.stopsHeard) Facts.mayEnter) c_lifted) c_make) c_kinds) c_pinned) c_veiled) c_veiledFits
theorem named_func : Tryz.prog.funcNamed "pub-ensign/laws.FnGetFloats" = some 7 := by kernel_rfl
theorem looks : true = Tryz.pinned.checked.prog.looks [] := by kernel_rfl
end Go.Proofs.YtnggkkdcddpjlaaGreatDoor.GetFloats
namespace Go.Proofs.YtnggkkdcddpjlaaGreatDoor.GetFloats
open Go.ChangeShapes Go.WideShapes Go.ChangeAt Go.RowKit
set_option maxRecDepth 100000
theorem lifted (os : Os) (started : os.Started) (H : Type) (enc : TypeId × Value → H) :
    ReturnsInHanded {} Tryz.checked os 7 .any (fun w args => (Rows.fnGetFloatsSpec.pre enc Tryz.prog Tryz.f7 Rows.fnGetFloatsRow.domain false w args ∧ laidMetH Tryz.prog Rows.fnGetFloatsRow.laid w) ∧ sizedMet enc Tryz.prog Tryz.f7 (OpenSpec.ofChange Rows.fnGetFloatsSpec) false w args)
      (Rows.fnGetFloatsSpec.post enc Tryz.prog Tryz.f7 false true false false) := by
  refine returnsInHanded_of_change_and (C := Tryz.checked) (X := fun w _ => laidMetH Tryz.prog Rows.fnGetFloatsRow.laid w) (fun _ _ _ hh h => h.of_heap hh) own started (by kernel_rfl) Tryz.func7
    (ChangeSpec.witness_shaped (enc := enc) (C := Tryz.checked) (os := os) (X := fun w _ => laidMetH Tryz.prog Rows.fnGetFloatsRow.laid w) false (World.laidAll Tryz.prog os Rows.fnGetFloatsRow.laid) #[.int .i64 0, .float .f64 0, .slice none 0 0] 8 (World.laidAll_os _ _ _)
      (World.shaped_of_ZipB (by kernel_rfl) (by kernel_rfl)) (by kernel_rfl) (by kernel_rfl) (by kernel_rfl)
      (by rw [MakeChecks.laidMetH_plain _ _ _ (by kernel_rfl)]; exact laidMet_laidAll _ (by kernel_rfl) (by kernel_rfl))) ?_
  intro W base args ds gs before hval0 hW hc _ hL _
  have hval : ∀ (j : Nat) t v, Tryz.f7.params[j]? = some t → args[j]? = some v → Value.okWide Tryz.prog W .any base t v := hval0
  have hW' := hW
  obtain ⟨p, q, hA0, hV, rfl, _, _⟩ := hW
  have hA : DataW.TrodAll enc Tryz.prog W 0 (fun _ => true) true Tryz.f7.params.toList args.toList ds p := hA0
  rw [Tryz.params7] at hA hval
  obtain ⟨v0, v1, v2, d0, d1, d2, p0, p1, p2, rfl, rfl, rfl, h0, h1, h2⟩ := trodAll_three hA
  obtain ⟨rfl, rfl⟩ := trodVars_none hV
  obtain ⟨hg, hw1, hw2⟩ := pws_of_list hL
  obtain ⟨k, rfl, rfl, rfl, wk⟩ := open_int Tryz.underlying3 (hval 0 3 v0 rfl rfl) h0
  obtain ⟨b, rfl, rfl, rfl, wb⟩ := open_float Tryz.underlying25 (hval 1 25 v1 rfl rfl) h1
  obtain ⟨pv, n, c, ss, rfl, hT⟩ := open_texts (hval 2 64 v2 rfl rfl) h2
  have hb : b < 18446744073709551616 := of_decide_eq_true wb
  simp only [List.append_nil, List.nil_append] at hW'
  have hlt : ∀ x ∈ p2, x.block < W.heap.size := fun x hx => by simpa using hW'.lt x hx
  refine (law_fl k b hb W hg hw1 hw2 pv n c ss hT).mono fun e W' ⟨he, hw⟩ => ?_
  subst he
  exact ⟨_, rfl, _, _, _, [], p2, [], hW', trodAll_mk1 (shut_bool Tryz.underlying4 _), trodAll_mk3 (shut_int Tryz.underlying3 wk) (shut_float Tryz.underlying25 wb) (Below.trod Facts.laidOut (by kernel_rfl) (of_decide_eq_true (by kernel_rfl)) h2 hw hlt), rfl, hw.frame _, fun h => by cases h⟩
theorem said : Rows.FnGetFloatsSaid :=
  OpenClaim.holds_of_wide 7 Tryz.f7 rfl rfl rfl rfl rfl rfl rfl ⟨rfl, rfl, rfl, rfl, rfl⟩ rfl rfl rfl rfl rfl named_func Tryz.func7 closed
    (of_decide_eq_true (by kernel_rfl)) (by unfold Func.isWrapper; first | (rw [if_pos (by decide +kernel)]; kernel_rfl) | (rw [if_neg (by decide +kernel)]; exact ⟨rfl, rfl⟩))
    (fun os started H enc _ => lifted os started H enc)
theorem plain (f : FuncId) (fn : Func) (hf : Tryz.pinned.checked.prog.funcNamed "pub-ensign/laws.FnGetFloats" = some f) (hfn : Tryz.pinned.checked.prog.funcs[f]? = some fn) :
    true = Tryz.pinned.checked.prog.looks [] ∧ ∀ (j : Nat) t, fn.params[j]? = some t → Tryz.pinned.checked.prog.wantsStandIn t = false := by
  obtain rfl : f = 7 := Option.some.inj (named_func.symm.trans hf) |>.symm
  obtain rfl : fn = Tryz.f7 := (Option.some.inj (Tryz.func7.symm.trans hfn)).symm
  refine ⟨looks, fun j t ht => ?_⟩
  rw [Tryz.params7] at ht
  have hm : t ∈ [3, 25, 64] := by simpa using Array.mem_of_getElem? ht
  have hall : ([3, 25, 64].all fun u => !Tryz.prog.wantsStandIn u) = true := by kernel_rfl
  exact (show Tryz.prog.wantsStandIn t = false by simpa using List.all_eq_true.1 hall t hm)
theorem card : Rows.FnGetFloatsCardSaid :=
  Claim7.holds_tied_plain_at .later [] _ _ _ _ said (fun _ h => by cases h) (by kernel_rfl) (fun _ h => by cases h) fnGetFloats_row_tie rfl ⟨rfl, rfl⟩ (by kernel_rfl) rfl plain (by kernel_rfl)
end Go.Proofs.YtnggkkdcddpjlaaGreatDoor.GetFloats
namespace Go.Proofs.YtnggkkdcddpjlaaGreatDoor
theorem fnGetFloats_holds : Rows.FnGetFloatsCardSaid := GetFloats.card
#print axioms fnGetFloats_holds
end Go.Proofs.YtnggkkdcddpjlaaGreatDoor
