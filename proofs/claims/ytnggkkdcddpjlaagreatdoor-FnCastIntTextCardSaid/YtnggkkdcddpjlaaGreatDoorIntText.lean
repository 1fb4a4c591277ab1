/- FnCastIntText: an int of any width is cast to its decimal digits, which are cast to that int again: for every k and n the law returns true. No condition but the row's own: the listed package-level variables start as the program's text lays them (the card ties them). -/
import Derived.Test.YtnggkkdcddpjlaaGreatDoorR0
import Derived.Test.YtnggkkdcddpjlaaGreatDoorC4
import Derived.Test.YtnggkkdcddpjlaaGreatDoorFIntText
namespace Go.Proofs.YtnggkkdcddpjlaaGreatDoor.IntText
open Go.ChangeShapes Go.WideShapes Go.ChangeAt Go.RowKit
set_option maxRecDepth 100000

theorem lifted (os : Os) (started : os.Started) (H : Type) (enc : TypeId × Value → H) :
    ReturnsInHanded {} Tryz.checked os 4 .any (fun w args => (Rows.fnCastIntTextSpec.pre enc Tryz.prog Tryz.f4 Rows.fnCastIntTextRow.domain false w args ∧ laidMetH Tryz.prog Rows.fnCastIntTextRow.laid w) ∧ sizedMet enc Tryz.prog Tryz.f4 (OpenSpec.ofChange Rows.fnCastIntTextSpec) false w args)
      (Rows.fnCastIntTextSpec.post enc Tryz.prog Tryz.f4 false true false false) := by
  refine returnsInHanded_of_change_and (C := Tryz.checked) (X := fun w _ => laidMetH Tryz.prog Rows.fnCastIntTextRow.laid w) (fun _ _ _ hh h => h.of_heap hh) own started (by kernel_rfl) Tryz.func4
    (ChangeSpec.witness_shaped (enc := enc) (C := Tryz.checked) (os := os) (X := fun w _ => laidMetH Tryz.prog Rows.fnCastIntTextRow.laid w) false (World.laidAll Tryz.prog os Rows.fnCastIntTextRow.laid) #[.int .i64 0, .int .i64 0] 8 (World.laidAll_os _ _ _)
      (World.shaped_of_ZipB (by kernel_rfl) (by kernel_rfl)) (by kernel_rfl) (by kernel_rfl) (by kernel_rfl)
      (by rw [MakeChecks.laidMetH_plain _ _ _ (by kernel_rfl)]; exact laidMet_laidAll _ (by kernel_rfl) (by kernel_rfl))) ?_
  intro W base args ds gs before hval0 hW hc _ hL _
  have hval : ∀ (j : Nat) t v, Tryz.f4.params[j]? = some t → args[j]? = some v → Value.okWide Tryz.prog W .any base t v := hval0
  have hW' := hW
  obtain ⟨p, q, hA0, hV, rfl, _, _⟩ := hW
  have hA : DataW.TrodAll enc Tryz.prog W 0 (fun _ => true) true Tryz.f4.params.toList args.toList ds p := hA0
  rw [Tryz.params4] at hA hval
  obtain ⟨v0, v1, d0, d1, p0, p1, rfl, rfl, rfl, h0, h1⟩ := trodAll_two hA
  obtain ⟨rfl, rfl⟩ := trodVars_none hV
  obtain ⟨k, rfl, rfl, rfl, wk⟩ := open_int Tryz.underlying3 (hval 0 3 v0 rfl rfl) h0
  obtain ⟨n, rfl, rfl, rfl, wn⟩ := open_int Tryz.underlying2 (hval 1 2 v1 rfl rfl) h1
  have bn := wn
  simp only [Lit.wf, Bool.and_eq_true, decide_eq_true_eq] at bn
  have hg := good_of_list hL
  simp only [List.append_nil] at hW'
  have b0 : -9223372036854775808 ≤ n := bn.1
  have b1 : n ≤ 9223372036854775807 := bn.2
  refine (law_any k n b0 b1 W hg).mono fun e W' ⟨he, hw⟩ => ?_
  subst he
  exact ⟨_, rfl, _, _, _, [], [], [], hW', trodAll_mk1 (shut_bool Tryz.underlying4 _), trodAll_mk2 (shut_int Tryz.underlying3 wk) (shut_int Tryz.underlying2 wn), rfl, hw.frame _, fun h => by cases h⟩

theorem said : Rows.FnCastIntTextSaid :=
  OpenClaim.holds_of_wide 4 Tryz.f4 rfl rfl rfl rfl rfl rfl rfl ⟨rfl, rfl, rfl, rfl, rfl⟩ rfl rfl rfl rfl rfl named_func Tryz.func4 closed
    (of_decide_eq_true (by kernel_rfl)) (by unfold Func.isWrapper; first | (rw [if_pos (by decide +kernel)]; kernel_rfl) | (rw [if_neg (by decide +kernel)]; exact ⟨rfl, rfl⟩))
    (fun os started H enc _ => lifted os started H enc)
theorem plain (f : FuncId) (fn : Func) (hf : Tryz.pinned.checked.prog.funcNamed "pub-ensign/laws.FnCastIntText" = some f) (hfn : Tryz.pinned.checked.prog.funcs[f]? = some fn) :
    true = Tryz.pinned.checked.prog.looks [] ∧ ∀ (j : Nat) t, fn.params[j]? = some t → Tryz.pinned.checked.prog.wantsStandIn t = false := by
  obtain rfl : f = 4 := Option.some.inj (named_func.symm.trans hf) |>.symm
  obtain rfl : fn = Tryz.f4 := (Option.some.inj (Tryz.func4.symm.trans hfn)).symm
  refine ⟨looks, fun j t ht => ?_⟩
  rw [Tryz.params4] at ht
  have hm : t ∈ [3, 2] := by simpa using Array.mem_of_getElem? ht
  have hall : ([3, 2].all fun u => !Tryz.prog.wantsStandIn u) = true := by kernel_rfl
  exact (show Tryz.prog.wantsStandIn t = false by simpa using List.all_eq_true.1 hall t hm)
theorem card : Rows.FnCastIntTextCardSaid :=
  Claim7.holds_tied_plain_at .later [] _ _ _ _ said (fun _ h => by cases h) (by kernel_rfl) (fun _ h => by cases h) fnCastIntText_row_tie rfl ⟨rfl, rfl⟩ (by kernel_rfl) rfl plain (by kernel_rfl)
end Go.Proofs.YtnggkkdcddpjlaaGreatDoor.IntText
namespace Go.Proofs.YtnggkkdcddpjlaaGreatDoor
theorem fnCastIntText_holds : Rows.FnCastIntTextCardSaid := IntText.card
#print axioms fnCastIntText_holds
end Go.Proofs.YtnggkkdcddpjlaaGreatDoor
