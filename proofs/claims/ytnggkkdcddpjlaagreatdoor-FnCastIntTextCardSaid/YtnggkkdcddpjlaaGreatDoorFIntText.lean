/- The closed facts of IntText's row, the kernel reckoning each alone. -/
import Derived.Test.YtnggkkdcddpjlaaGreatDoorF0
namespace Go.Proofs.YtnggkkdcddpjlaaGreatDoor.IntText
open Go
set_option maxRecDepth 100000
theorem c_wf : (Rows.fnCastIntTextRow.wf (OpenSpec.ofChange Rows.fnCastIntTextSpec)) = true := by kernel_rfl
theorem c_params : (Tryz.f4.params.all (Tryz.prog.readableRec ·)) = true := by kernel_rfl
theorem c_namedTie : (namedTie Tryz.prog Rows.fnCastIntTextRow.named Rows.fnCastIntTextSpec.vars) = true := by kernel_rfl
theorem c_cstops : ((Rows.fnCastIntTextRow.stops == [])) = true := by kernel_rfl
theorem c_knobs : ((Rows.fnCastIntTextRow.knobs == [])) = true := by kernel_rfl
theorem c_inPlace : ((Rows.fnCastIntTextRow.inPlace == Tryz.prog.inPlace 4)) = true := by kernel_rfl
theorem c_unfollowed : ((Rows.fnCastIntTextRow.unfollowed == Tryz.prog.unfollowed 4)) = true := by kernel_rfl
theorem c_recurses : ((Rows.fnCastIntTextRow.recurses == Tryz.prog.recurses 4)) = true := by kernel_rfl
theorem c_named : ((Rows.fnCastIntTextRow.named == Tryz.prog.varsNamed 4)) = true := by kernel_rfl
theorem c_maps : ((Rows.fnCastIntTextRow.maps == (Tryz.f4.params.toList ++ Rows.fnCastIntTextSpec.plain.varTypes Tryz.prog).any (Tryz.prog.mapsRec ·))) = true := by kernel_rfl
theorem c_ifaces : ((Rows.fnCastIntTextRow.ifaces == (Tryz.f4.params.toList ++ Rows.fnCastIntTextSpec.plain.varTypes Tryz.prog).any (Tryz.prog.ifacesRec ·))) = true := by kernel_rfl
theorem c_mapsOut : ((Rows.fnCastIntTextRow.mapsOut == Tryz.prog.mapsAmong Tryz.f4.resultTypes.toList)) = true := by kernel_rfl
theorem c_loops : ((Rows.fnCastIntTextRow.loops == (Tryz.f4.params.toList ++ Rows.fnCastIntTextSpec.plain.varTypes Tryz.prog).any (Tryz.prog.loopsFrom ·))) = true := by kernel_rfl
theorem c_wideKeys : ((Rows.fnCastIntTextRow.wideKeys == (Tryz.f4.params.toList ++ Rows.fnCastIntTextSpec.plain.varTypes Tryz.prog ++ Tryz.f4.resultTypes.toList).any (Tryz.prog.wideKeysFrom ·))) = true := by kernel_rfl
theorem c_vars : (Rows.fnCastIntTextSpec.vars.all (Tryz.prog.varReadable ·)) = true := by kernel_rfl
theorem c_results : (Tryz.f4.resultTypes.all (fun t => Tryz.prog.readableRec t && decide (t < Tryz.prog.types.size))) = true := by kernel_rfl
theorem c_ifacesOut : ((Rows.fnCastIntTextRow.ifacesOut == Tryz.f4.resultTypes.toList.any (Tryz.prog.ifacesRec ·))) = true := by kernel_rfl
theorem c_loopsOut : ((Rows.fnCastIntTextRow.loopsOut == Tryz.f4.resultTypes.toList.any (Tryz.prog.loopsFrom ·))) = true := by kernel_rfl
theorem c_plainKeys : ((Rows.fnCastIntTextRow.plainKeys == Tryz.prog.plainKeys)) = true := by kernel_rfl
theorem c_shortTexts : (Rows.fnCastIntTextRow.shortTexts.isNone) = true := by kernel_rfl
theorem c_lifted : ((Rows.fnCastIntTextRow.lifted == Tryz.prog.liftsFinal)) = true := by kernel_rfl
theorem c_make : ((Tryz.prog.make == some Rows.fnCastIntTextRow.make)) = true := by kernel_rfl
theorem c_kinds : ((Rows.fnCastIntTextRow.kinds == (if Rows.fnCastIntTextRow.domain.isEmpty then [] else Tryz.f4.params.toList.map fun t => match Tryz.prog.underlying t with | some (.int k) => some k | _ => none))) = true := by kernel_rfl
theorem c_pinned : ((Rows.fnCastIntTextRow.pinned == Rows.fnCastIntTextRow.pinnedBy)) = true := by kernel_rfl
theorem c_veiled : ((Rows.fnCastIntTextRow.veiled == (Tryz.f4.params.toList ++ Rows.fnCastIntTextSpec.plain.varTypes Tryz.prog ++ Tryz.f4.resultTypes.toList).any (Tryz.prog.veiledRec ·))) = true := by kernel_rfl
theorem c_veiledFits : (Rows.fnCastIntTextRow.veiledFits Tryz.prog Tryz.f4.params.toList (Tryz.f4.params.toList ++ Rows.fnCastIntTextSpec.plain.varTypes Tryz.prog ++ Tryz.f4.resultTypes.toList)) = true := by kernel_rfl
theorem and2 {a b : Bool} (h : a = true) (k : b = true) : (a && b) = true := by rw [h, k]; rfl
theorem closed : joinedFacts Tryz.prog 4 Tryz.f4 Rows.fnCastIntTextSpec Rows.fnCastIntTextRow = true := by
  unfold joinedFacts
  exact and2 (and2 (and2 (and2 (and2 (and2 (and2 (and2 (and2 (and2 (and2 (and2 (and2 (and2 (and2 (and2 (and2 (and2 (and2 (and2 (and2 (and2 (and2 (and2 (and2 (and2 (and2 (and2 (and2 (and2 (and2 c_wf Facts.laidOut) Facts.mapsRowed) c_params) c_namedTie) c_cstops) Facts.stops) c_knobs) Facts.stopKnobs) c_inPlace) c_unfollowed) c_recurses) c_named) c_maps) c_ifaces) c_mapsOut) c_loops) c_wideKeys) c_vars) c_results) c_ifacesOut) c_loopsOut) c_plainKeys) c_shortTexts) Facts.stopsHeard) Facts.mayEnter) c_lifted) c_make) c_kinds) c_pinned) c_veiled) c_veiledFits
theorem named_func : Tryz.prog.funcNamed "pub-ensign/laws.FnCastIntText" = some 4 := by kernel_rfl
theorem looks : true = Tryz.pinned.checked.prog.looks [] := by kernel_rfl
end Go.Proofs.YtnggkkdcddpjlaaGreatDoor.IntText