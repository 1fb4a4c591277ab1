/- FnCastNumber: cast.ToNumberE of int, uint8 and float64 answers what ToIntE, ToUint8E and ToFloat64E answer, with an error just where they have one: for every plain value the law returns true. No condition but the row's own: the listed package-level variables start as the program's text lays them (the card ties them). With the closed facts of its row. -/
import Derived.Test.YtnggkkdcddpjlaaGreatDoorR0
import Derived.JoinedOf
import Derived.Test.YtnggkkdcddpjlaaGreatDoorRR
import Derived.Test.YtnggkkdcddpjlaaGreatDoorJJ
/- Closed facts of the program that each row's form asks: the kernel reckons each alone. -/
namespace Go.Proofs.YtnggkkdcddpjlaaGreatDoor.Facts
open Go
set_option maxRecDepth 100000
theorem laidOut : laidOutB Tryz.prog = true := by kernel_rfl
theorem mapsRowed : mapsRowed Tryz.prog = true := by kernel_rfl
theorem stops : (Tryz.prog.stops == []) = true := by kernel_rfl
theorem stopKnobs : (Tryz.prog.stopKnobs == []) = true := by kernel_rfl
theorem stopsHeard : Tryz.prog.stopsHeard = true := by kernel_rfl
theorem mayEnter : Tryz.prog.mayEnter = true := by kernel_rfl
end Go.Proofs.YtnggkkdcddpjlaaGreatDoor.Facts

/- The closed facts of Number's row, the kernel reckoning each alone. -/
namespace Go.Proofs.YtnggkkdcddpjlaaGreatDoor.Number
open Go
set_option maxRecDepth 100000
theorem c_wf : (Rows.fnCastNumberRow.wf (OpenSpec.ofChange Rows.fnCastNumberSpec)) = true := by kernel_rfl
theorem c_params : (Tryz.f6.params.all (Tryz.prog.readableRec ·)) = true := by kernel_rfl
theorem c_namedTie : (namedTie Tryz.prog Rows.fnCastNumberRow.named Rows.fnCastNumberSpec.vars) = true := by kernel_rfl
theorem c_cstops : ((Rows.fnCastNumberRow.stops == [])) = true := by kernel_rfl
theorem c_knobs : ((Rows.fnCastNumberRow.knobs == [])) = true := by kernel_rfl
theorem c_inPlace : ((Rows.fnCastNumberRow.inPlace == Tryz.prog.inPlace 6)) = true := by kernel_rfl
theorem c_unfollowed : ((Rows.fnCastNumberRow.unfollowed == Tryz.prog.unfollowed 6)) = true := by kernel_rfl
theorem c_recurses : ((Rows.fnCastNumberRow.recurses == Tryz.prog.recurses 6)) = true := by kernel_rfl
theorem c_named : ((Rows.fnCastNumberRow.named == Tryz.prog.varsNamed 6)) = true := by kernel_rfl
theorem c_maps : ((Rows.fnCastNumberRow.maps == (Tryz.f6.params.toList ++ Rows.fnCastNumberSpec.plain.varTypes Tryz.prog).any (Tryz.prog.mapsRec ·))) = true := by kernel_rfl
theorem c_ifaces : ((Rows.fnCastNumberRow.ifaces == (Tryz.f6.params.toList ++ Rows.fnCastNumberSpec.plain.varTypes Tryz.prog).any (Tryz.prog.ifacesRec ·))) = true := by kernel_rfl
theorem c_mapsOut : ((Rows.fnCastNumberRow.mapsOut == Tryz.prog.mapsAmong Tryz.f6.resultTypes.toList)) = true := by kernel_rfl
theorem c_loops : ((Rows.fnCastNumberRow.loops == (Tryz.f6.params.toList ++ Rows.fnCastNumberSpec.plain.varTypes Tryz.prog).any (Tryz.prog.loopsFrom ·))) = true := by kernel_rfl
theorem c_wideKeys : ((Rows.fnCastNumberRow.wideKeys == (Tryz.f6.params.toList ++ Rows.fnCastNumberSpec.plain.varTypes Tryz.prog ++ Tryz.f6.resultTypes.toList).any (Tryz.prog.wideKeysFrom ·))) = true := by kernel_rfl
theorem c_vars : (Rows.fnCastNumberSpec.vars.all (Tryz.prog.varReadable ·)) = true := by kernel_rfl
theorem c_results : (Tryz.f6.resultTypes.all (fun t => Tryz.prog.readableRec t && decide (t < Tryz.prog.types.size))) = true := by kernel_rfl
theorem c_ifacesOut : ((Rows.fnCastNumberRow.ifacesOut == Tryz.f6.resultTypes.toList.any (Tryz.prog.ifacesRec ·))) = true := by kernel_rfl
theorem c_loopsOut : ((Rows.fnCastNumberRow.loopsOut == Tryz.f6.resultTypes.toList.any (Tryz.prog.loopsFrom ·))) = true := by kernel_rfl
theorem c_plainKeys : ((Rows.fnCastNumberRow.plainKeys == Tryz.prog.plainKeys)) = true := by kernel_rfl
theorem c_shortTexts : (Rows.fnCastNumberRow.shortTexts.isNone) = true := by kernel_rfl
theorem c_lifted : ((Rows.fnCastNumberRow.lifted == Tryz.prog.liftsFinal)) = true := by kernel_rfl
theorem c_make : ((Tryz.prog.make == some Rows.fnCastNumberRow.make)) = true := by kernel_rfl
theorem c_kinds : ((Rows.fnCastNumberRow.kinds == (if Rows.fnCastNumberRow.domain.isEmpty then [] else Tryz.f6.params.toList.map fun t => match Tryz.prog.underlying t with | some (.int k) => some k | _ => none))) = true := by kernel_rfl
theorem c_pinned : ((Rows.fnCastNumberRow.pinned == Rows.fnCastNumberRow.pinnedBy)) = true := by kernel_rfl
theorem c_veiled : ((Rows.fnCastNumberRow.veiled == (Tryz.f6.params.toList ++ Rows.fnCastNumberSpec.plain.varTypes Tryz.prog ++ Tryz.f6.resultTypes.toList).any (Tryz.prog.veiledRec ·))) = true := by kernel_rfl
theorem c_veiledFits : (Rows.fnCastNumberRow.veiledFits Tryz.prog Tryz.f6.params.toList (Tryz.f6.params.toList ++ Rows.fnCastNumberSpec.plain.varTypes Tryz.prog ++ Tryz.f6.resultTypes.toList)) = true := by kernel_rfl
theorem and2 {a b : Bool} (h : a = true) (k : b = true) : (a && b) = true := by rw [h, k]; rfl
theorem closed : joinedFacts Tryz.prog 6 Tryz.f6 Rows.fnCastNumberSpec Rows.fnCastNumberRow = true := by
  unfold joinedFacts
  exact and2 (and2 (and2 (and2 (and2 (and2 (and2 (and2 (and2 (and2 (and2 (and2 (and2 (and2 (and2 (and2 (and2 (and2 (and2 (and2 (and2 (and2 (and2 (and2 (and2 (and2 (and2 (and2 (and2 (and2 (and2 c_wf Facts.laidOut) Facts.mapsRowed) c_params) c_namedTie) c_cstops) Facts.stops) c_knobs) Facts.stopKnobs) c_inPlace) c_unfollowed) c_recurses) c_named) c_maps) c_ifaces) c_mapsOut) c_loops) c_wideKeys) c_vars) c_results) c_ifacesOut) c_loopsOut) c_plainKeys) c_shortTexts) Facts.stopsHeard) Facts.mayEnter) c_lifted) c_make) c_kinds) c_pinned) c_veiled) c_veiledFits
theorem named_func : Tryz.prog.funcNamed "pub-ensign/laws.FnCastNumber" = some 6 := by kernel_rfl
theorem looks : true = Tryz.pinned.checked.prog.looks [] := by kernel_rfl
end Go.Proofs.YtnggkkdcddpjlaaGreatDoor.Number
/- FnCastNumber: cast.ToNumberE of int, uint8 and float64 answers what ToIntE, ToUint8E and ToFloat64E answer, with an error just where they have one: for every plain value the law returns true. No condition but the row's own: the listed package-level variables start as the program's text lays them (the card ties them). -/
namespace Go.Proofs.YtnggkkdcddpjlaaGreatDoor.Number
open Go.ChangeShapes Go.WideShapes Go.ChangeAt Go.RowKit
set_option maxRecDepth 100000

theorem lifted (os : Os) (started : os.Started) (H : Type) (enc : TypeId × Value → H) :
    ReturnsInHanded {} Tryz.checked os 6 .any (fun w args => (Rows.fnCastNumberSpec.pre enc Tryz.prog Tryz.f6 Rows.fnCastNumberRow.domain false w args ∧ laidMetH Tryz.prog Rows.fnCastNumberRow.laid w) ∧ sizedMet enc Tryz.prog Tryz.f6 (OpenSpec.ofChange Rows.fnCastNumberSpec) false w args)
      (Rows.fnCastNumberSpec.post enc Tryz.prog Tryz.f6 false true false false) := by
  refine returnsInHanded_of_change_and (C := Tryz.checked) (X := fun w _ => laidMetH Tryz.prog Rows.fnCastNumberRow.laid w) (fun _ _ _ hh h => h.of_heap hh) own started (by kernel_rfl) Tryz.func6
    (ChangeSpec.witness_shaped (enc := enc) (C := Tryz.checked) (os := os) (X := fun w _ => laidMetH Tryz.prog Rows.fnCastNumberRow.laid w) false (World.laidAll Tryz.prog os Rows.fnCastNumberRow.laid) #[.agg #[.int .i64 0, .int .i64 0, .int .u64 0, .float .f64 0, .string ⟨#[]⟩, .slice none 0 0, .slice none 0 0]] 8 (World.laidAll_os _ _ _)
      (World.shaped_of_ZipB (by kernel_rfl) (by kernel_rfl)) (by kernel_rfl) (by kernel_rfl) (by kernel_rfl)
      (by rw [MakeChecks.laidMetH_plain _ _ _ (by kernel_rfl)]; exact laidMet_laidAll _ (by kernel_rfl) (by kernel_rfl))) ?_
  intro W base args ds gs before hval0 hW hc _ hL _
  have hval : ∀ (j : Nat) t v, Tryz.f6.params[j]? = some t → args[j]? = some v → Value.okWide Tryz.prog W .any base t v := hval0
  have hW' := hW
  obtain ⟨p, q, hA0, hV, rfl, _, _⟩ := hW
  have hA : DataW.TrodAll enc Tryz.prog W 0 (fun _ => true) true Tryz.f6.params.toList args.toList ds p := hA0
  rw [Tryz.params6] at hA hval
  obtain ⟨v0, d0, rfl, rfl, h0⟩ := trodAll_one hA
  obtain ⟨rfl, rfl⟩ := trodVars_none hV
  have hg : CW W := cw_of_list hL
  obtain ⟨k, i, u, f, s, lp, ln, lc, mp, mn, mc, rfl, i0, i1, u0, u1⟩ := open_any (hval 0 28 v0 rfl rfl) h0
  simp only [List.append_nil] at hW'
  have hlt : ∀ x ∈ p, x.block < W.heap.size := fun x hx => by simpa using hW'.lt x hx
  refine (law_number k i u f s lp ln lc mp mn mc i0 i1 u0 (by omega) W hg).mono fun e W' ⟨he, hw⟩ => ?_
  subst he
  exact ⟨_, rfl, _, _, _, [], p, [], hW', trodAll_mk1 (shut_bool Tryz.underlying4 _), trodAll_mk1 (Below.trod Facts.laidOut (by kernel_rfl) (of_decide_eq_true (by kernel_rfl)) h0 hw hlt), rfl, hw.frame _, fun h => by cases h⟩

theorem said : Rows.FnCastNumberSaid :=
  OpenClaim.holds_of_wide 6 Tryz.f6 rfl rfl rfl rfl rfl rfl rfl ⟨rfl, rfl, rfl, rfl, rfl⟩ rfl rfl rfl rfl rfl named_func Tryz.func6 closed
    (of_decide_eq_true (by kernel_rfl)) (by unfold Func.isWrapper; first | (rw [if_pos (by decide +kernel)]; kernel_rfl) | (rw [if_neg (by decide +kernel)]; exact ⟨rfl, rfl⟩))
    (fun os started H enc _ => lifted os started H enc)
theorem plain (f : FuncId) (fn : Func) (hf : Tryz.pinned.checked.prog.funcNamed "pub-ensign/laws.FnCastNumber" = some f) (hfn : Tryz.pinned.checked.prog.funcs[f]? = some fn) :
    true = Tryz.pinned.checked.prog.looks [] ∧ ∀ (j : Nat) t, fn.params[j]? = some t → Tryz.pinned.checked.prog.wantsStandIn t = false := by
  obtain rfl : f = 6 := Option.some.inj (named_func.symm.trans hf) |>.symm
  obtain rfl : fn = Tryz.f6 := (Option.some.inj (Tryz.func6.symm.trans hfn)).symm
  refine ⟨looks, fun j t ht => ?_⟩
  rw [Tryz.params6] at ht
  have hm : t ∈ [28] := by simpa using Array.mem_of_getElem? ht
  have hall : ([28].all fun u => !Tryz.prog.wantsStandIn u) = true := by kernel_rfl
  exact (show Tryz.prog.wantsStandIn t = false by simpa using List.all_eq_true.1 hall t hm)
theorem card : Rows.FnCastNumberCardSaid :=
  Claim7.holds_tied_plain_at .later [] _ _ _ _ said (fun _ h => by cases h) (by kernel_rfl) (fun _ h => by cases h) fnCastNumber_row_tie rfl ⟨rfl, rfl⟩ (by kernel_rfl) rfl plain (by kernel_rfl)
end Go.Proofs.YtnggkkdcddpjlaaGreatDoor.Number
namespace Go.Proofs.YtnggkkdcddpjlaaGreatDoor
theorem fnCastNumber_holds : Rows.FnCastNumberCardSaid := Number.card
#print axioms fnCastNumber_holds
end Go.Proofs.YtnggkkdcddpjlaaGreatDoor
