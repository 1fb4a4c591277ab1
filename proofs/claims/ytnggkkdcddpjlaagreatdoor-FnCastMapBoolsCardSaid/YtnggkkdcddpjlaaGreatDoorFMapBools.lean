/- The closed facts of MapBools's row, the kernel reckoning each alone. -/
import Derived.Test.YtnggkkdcddpjlaaGreatDoorF0
namespace Go.Proofs.YtnggkkdcddpjlaaGreatDoor.MapBools
open Go
set_option maxRecDepth 100000
theorem c_wf : (Rows.fnCastMapBoolsRow.wf (OpenSpec.ofChange Rows.fnCastMapBoolsSpec)) = true := by kernel_rfl
theorem c_params : (Tryz.f3.params.all (Tryz.prog.readableRec ·)) = true := by kernel_rfl
theorem c_namedTie : (namedTie Tryz.prog Rows.fnCastMapBoolsRow.named Rows.fnCastMapBoolsSpec.vars) = true := by kernel_rfl
theorem c_cstops : ((Rows.fnCastMapBoolsRow.stops == [])) = true := by kernel_rfl
theorem c_knobs : ((Rows.fnCastMapBoolsRow.knobs == [])) = true := by kernel_rfl
theorem c_inPlace : ((Rows.fnCastMapBoolsRow.inPlace == Tryz.prog.inPlace 3)) = true := by kernel_rfl
theorem c_unfollowed : ((Rows.fnCastMapBoolsRow.unfollowed == Tryz.prog.unfollowed 3)) = true := by kernel_rfl
theorem c_recurses : ((Rows.fnCastMapBoolsRow.recurses == Tryz.prog.recurses 3)) = true := by kernel_rfl
theorem c_named : ((Rows.fnCastMapBoolsRow.named == Tryz.prog.varsNamed 3)) = true := by kernel_rfl
theorem c_maps : ((Rows.fnCastMapBoolsRow.maps == (Tryz.f3.params.toList ++ Rows.fnCastMapBoolsSpec.plain.varTypes Tryz.prog).any (Tryz.prog.mapsRec ·))) = true := by kernel_rfl
theorem c_ifaces : ((Rows.fnCastMapBoolsRow.ifaces == (Tryz.f3.params.toList ++ Rows.fnCastMapBoolsSpec.plain.varTypes Tryz.prog).any (Tryz.prog.ifacesRec ·))) = true := by kernel_rfl
theorem c_mapsOut : ((Rows.fnCastMapBoolsRow.mapsOut == Tryz.prog.mapsAmong Tryz.f3.resultTypes.toList)) = true := by kernel_rfl
theorem c_loops : ((Rows.fnCastMapBoolsRow.loops == (Tryz.f3.params.toList ++ Rows.fnCastMapBoolsSpec.plain.varTypes Tryz.prog).any (Tryz.prog.loopsFrom ·))) = true := by kernel_rfl
theorem c_wideKeys : ((Rows.fnCastMapBoolsRow.wideKeys == (Tryz.f3.params.toList ++ Rows.fnCastMapBoolsSpec.plain.varTypes Tryz.prog ++ Tryz.f3.resultTypes.toList).any (Tryz.prog.wideKeysFrom ·))) = true := by kernel_rfl
theorem c_vars : (Rows.fnCastMapBoolsSpec.vars.all (Tryz.prog.varReadable ·)) = true := by kernel_rfl
theorem c_results : (Tryz.f3.resultTypes.all (fun t => Tryz.prog.readableRec t && decide (t < Tryz.prog.types.size))) = true := by kernel_rfl
theorem c_ifacesOut : ((Rows.fnCastMapBoolsRow.ifacesOut == Tryz.f3.resultTypes.toList.any (Tryz.prog.ifacesRec ·))) = true := by kernel_rfl
theorem c_loopsOut : ((Rows.fnCastMapBoolsRow.loopsOut == Tryz.f3.resultTypes.toList.any (Tryz.prog.loopsFrom ·))) = true := by kernel_rfl
theorem c_plainKeys : ((Rows.fnCastMapBoolsRow.plainKeys == Tryz.prog.plainKeys)) = true := by kernel_rfl
theorem c_shortTexts : (Rows.fnCastMapBoolsRow.shortTexts.isNone) = true := by kernel_rfl
theorem c_lifted : ((Rows.fnCastMapBoolsRow.lifted == Tryz.prog.liftsFinal)) = true := by kernel_rfl
theorem c_make : ((Tryz.prog.make == some Rows.fnCastMapBoolsRow.make)) = true := by kernel_rfl
theorem c_kinds : ((Rows.fnCastMapBoolsRow.kinds == (if Rows.fnCastMapBoolsRow.domain.isEmpty then [] else Tryz.f3.params.toList.map fun t => match Tryz.prog.underlying t with | some (.int k) => some k | _ => none))) = true := by kernel_rfl
theorem c_pinned : ((Rows.fnCastMapBoolsRow.pinned == Rows.fnCastMapBoolsRow.pinnedBy)) = true := by kernel_rfl
theorem c_veiled : ((Rows.fnCastMapBoolsRow.veiled == (Tryz.f3.params.toList ++ Rows.fnCastMapBoolsSpec.plain.varTypes Tryz.prog ++ Tryz.f3.resultTypes.toList).any (Tryz.prog.veiledRec ·))) = true := by kernel_rfl
theorem c_veiledFits : (Rows.fnCastMapBoolsRow.veiledFits Tryz.prog Tryz.f3.params.toList (Tryz.f3.params.toList ++ Rows.fnCastMapBoolsSpec.plain.varTypes Tryz.prog ++ Tryz.f3.resultTypes.toList)) = true := by kernel_rfl
theorem and2 {a b : Bool} (h : a = true) (k : b = true) : (a && b) = true := by rw [h, k]; rfl
theorem closed : joinedFacts Tryz.prog 3 Tryz.f3 Rows.fnCastMapBoolsSpec Rows.fnCastMapBoolsRow = true := by
  unfold joinedFacts
  exact and2 (and2 (and2 (and2 (and2 (and2 (and2 (and2 (and2 (and2 (and2 (and2 (and2 (and2 (and2 (and2 (and2 (and2 (and2 (and2 (and2 (and2 (and2 (and2 (and2 (and2 (and2 (and2 (and2 (and2 (and2 c_wf Facts.laidOut) Facts.mapsRowed) c_params) c_namedTie) c_cstops) Facts.stops) c_knobs) Facts.stopKnobs) c_inPlace) c_unfollowed) c_recurses) c_named) c_maps) c_ifaces) c_mapsOut) c_loops) c_wideKeys) c_vars) c_results) c_ifacesOut) c_loopsOut) c_plainKeys) c_shortTexts) Facts.stopsHeard) Facts.mayEnter) c_lifted) c_make) c_kinds) c_pinned) c_veiled) c_veiledFits
theorem named_func : Tryz.prog.funcNamed "pub-ensign/laws.FnCastMapBools" = some 3 := by kernel_rfl
theorem looks : true = Tryz.pinned.checked.prog.looks [] := by kernel_rfl
end Go.Proofs.YtnggkkdcddpjlaaGreatDoor.MapBools