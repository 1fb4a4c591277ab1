/- The closed facts of MapSame's row, the kernel reckoning each alone. -/
import Derived.Test.YtnggkkdcddpjlaaGreatDoorF0
namespace Go.Proofs.YtnggkkdcddpjlaaGreatDoor.MapSame
open Go
set_option maxRecDepth 100000
theorem c_wf : (Rows.fnCastMapSameRow.wf (OpenSpec.ofChange Rows.fnCastMapSameSpec)) = true := by kernel_rfl
theorem c_params : (Tryz.f5.params.all (Tryz.prog.readableRec ·)) = true := by kernel_rfl
theorem c_namedTie : (namedTie Tryz.prog Rows.fnCastMapSameRow.named Rows.fnCastMapSameSpec.vars) = true := by kernel_rfl
theorem c_cstops : ((Rows.fnCastMapSameRow.stops == [])) = true := by kernel_rfl
theorem c_knobs : ((Rows.fnCastMapSameRow.knobs == [])) = true := by kernel_rfl
theorem c_inPlace : ((Rows.fnCastMapSameRow.inPlace == Tryz.prog.inPlace 5)) = true := by kernel_rfl
theorem c_unfollowed : ((Rows.fnCastMapSameRow.unfollowed == Tryz.prog.unfollowed 5)) = true := by kernel_rfl
theorem c_recurses : ((Rows.fnCastMapSameRow.recurses == Tryz.prog.recurses 5)) = true := by kernel_rfl
theorem c_named : ((Rows.fnCastMapSameRow.named == Tryz.prog.varsNamed 5)) = true := by kernel_rfl
theorem c_maps : ((Rows.fnCastMapSameRow.maps == (Tryz.f5.params.toList ++ Rows.fnCastMapSameSpec.plain.varTypes Tryz.prog).any (Tryz.prog.mapsRec ·))) = true := by kernel_rfl
theorem c_ifaces : ((Rows.fnCastMapSameRow.ifaces == (Tryz.f5.params.toList ++ Rows.fnCastMapSameSpec.plain.varTypes Tryz.prog).any (Tryz.prog.ifacesRec ·))) = true := by kernel_rfl
theorem c_mapsOut : ((Rows.fnCastMapSameRow.mapsOut == Tryz.prog.mapsAmong Tryz.f5.resultTypes.toList)) = true := by kernel_rfl
theorem c_loops : ((Rows.fnCastMapSameRow.loops == (Tryz.f5.params.toList ++ Rows.fnCastMapSameSpec.plain.varTypes Tryz.prog).any (Tryz.prog.loopsFrom ·))) = true := by kernel_rfl
theorem c_wideKeys : ((Rows.fnCastMapSameRow.wideKeys == (Tryz.f5.params.toList ++ Rows.fnCastMapSameSpec.plain.varTypes Tryz.prog ++ Tryz.f5.resultTypes.toList).any (Tryz.prog.wideKeysFrom ·))) = true := by kernel_rfl
theorem c_vars : (Rows.fnCastMapSameSpec.vars.all (Tryz.prog.varReadable ·)) = true := by kernel_rfl
theorem c_results : (Tryz.f5.resultTypes.all (fun t => Tryz.prog.readableRec t && decide (t < Tryz.prog.types.size))) = true := by kernel_rfl
theorem c_ifacesOut : ((Rows.fnCastMapSameRow.ifacesOut == Tryz.f5.resultTypes.toList.any (Tryz.prog.ifacesRec ·))) = true := by kernel_rfl
theorem c_loopsOut : ((Rows.fnCastMapSameRow.loopsOut == Tryz.f5.resultTypes.toList.any (Tryz.prog.loopsFrom ·))) = true := by kernel_rfl
theorem c_plainKeys : ((Rows.fnCastMapSameRow.plainKeys == Tryz.prog.plainKeys)) = true := by kernel_rfl
theorem c_shortTexts : (Rows.fnCastMapSameRow.shortTexts.isNone) = true := by kernel_rfl
theorem c_lifted : ((Rows.fnCastMapSameRow.lifted == Tryz.prog.liftsFinal)) = true := by kernel_rfl
theorem c_make : ((Tryz.prog.make == some Rows.fnCastMapSameRow.make)) = true := by kernel_rfl
theorem c_kinds : ((Rows.fnCastMapSameRow.kinds == (if Rows.fnCastMapSameRow.domain.isEmpty then [] else Tryz.f5.params.toList.map fun t => match Tryz.prog.underlying t with | some (.int k) => some k | _ => none))) = true := by kernel_rfl
theorem c_pinned : ((Rows.fnCastMapSameRow.pinned == Rows.fnCastMapSameRow.pinnedBy)) = true := by kernel_rfl
theorem c_veiled : ((Rows.fnCastMapSameRow.veiled == (Tryz.f5.params.toList ++ Rows.fnCastMapSameSpec.plain.varTypes Tryz.prog ++ Tryz.f5.resultTypes.toList).any (Tryz.prog.veiledRec ·))) = true := by kernel_rfl
theorem c_veiledFits : (Rows.fnCastMapSameRow.veiledFits Tryz.prog Tryz.f5.params.toList (Tryz.f5.params.toList ++ Rows.fnCastMapSameSpec.plain.varTypes Tryz.prog ++ Tryz.f5.resultTypes.toList)) = true := by kernel_rfl
theorem and2 {a b : Bool} (h : a = true) (k : b = true) : (a && b) = true := by rw [h, k]; rfl
theorem closed : joinedFacts Tryz.prog 5 Tryz.f5 Rows.fnCastMapSameSpec Rows.fnCastMapSameRow = true := by
  unfold joinedFacts
  exact and2 (and2 (and2 (and2 (and2 (and2 (and2 (and2 (and2 (and2 (and2 (and2 (and2 (and2 (and2 (and2 (and2 (and2 (and2 (and2 (and2 (and2 (and2 (and2 (and2 (and2 (and2 (and2 (and2 (and2 (and2 c_wf Facts.laidOut) Facts.mapsRowed) c_params) c_namedTie) c_cstops) Facts.stops) c_knobs) Facts.stopKnobs) c_inPlace) c_unfollowed) c_recurses) c_named) c_maps) c_ifaces) c_mapsOut) c_loops) c_wideKeys) c_vars) c_results) c_ifacesOut) c_loopsOut) c_plainKeys) c_shortTexts) Facts.stopsHeard) Facts.mayEnter) c_lifted) c_make) c_kinds) c_pinned) c_veiled) c_veiledFits
theorem named_func : Tryz.prog.funcNamed "pub-ensign/laws.FnCastMapSame" = some 5 := by kernel_rfl
theorem looks : true = Tryz.pinned.checked.prog.looks [] := by kernel_rfl
end Go.Proofs.YtnggkkdcddpjlaaGreatDoor.MapSame