/-
  FnFindAll, whole: the tied card. Each package that an index tells is found by its folder. No condition of ours: every input of the law. The listed variables are tied to the program's text by the given tie.
-/
import Derived.Test.YtanfimeajalffaaGreatDoorFrame2
import Derived.Test.YtanfimeajalffaaGreatDoorLawFindAll
import Derived.Test.YtanfimeajalffaaGreatDoorOpen
namespace Go.Proofs.YtanfimeajalffaaGreatDoor.fnFindAll
open Go.ChangeShapes Go.WideShapes Go.ChangeAt Go.RowKit
open Go.ChangeMaps (open_string shut_string)

set_option maxRecDepth 100000 in
theorem contract (H : Type) (enc : TypeId × Value → H) (W : World) (base : Nat) (args : Array Value) (ds gs : List (DataW H)) (before : List MemPlace)
    (hval : ∀ (j : Nat) t v, Tryz.f6.params[j]? = some t → args[j]? = some v → Value.okWide Tryz.prog W .any base t v)
    (hW : DataW.Whole enc Tryz.prog Tryz.f6.params.toList Rows.fnFindAllSpec.vars false W args.toList ds gs before) (hL : laidMet Tryz.prog Rows.fnFindAllRow.laid W) :
    Calls Tryz.prog 6 args W fun e W' => ∃ v, e = .returned v ∧ Rows.fnFindAllSpec.post enc Tryz.prog Tryz.f6 false true false false W args v W' := by
  have hW' := hW
  obtain ⟨p, q, hA0, hV, rfl, hfz, hnd⟩ := hW
  have hA : DataW.TrodAll enc Tryz.prog W 0 (fun _ => true) true Tryz.f6.params.toList args.toList ds p := hA0
  rw [Tryz.params6] at hA hval
  obtain ⟨v0, d0, rfl, rfl, h0⟩ := trodAll_one hA
  have hk0 := hval 0 22 v0 rfl rfl
  obtain ⟨a0, len0, cap0, rfl⟩ := okWide_slice Tryz.underlying22 hk0
  obtain ⟨f0, hf0⟩ := h0
  obtain ⟨u0, ps0, e0, hl0, hw0, hP0⟩ := open_pkgs hf0
  simp [Value.cells] at e0
  subst e0
  obtain ⟨ga, oa, hCan⟩ := cannot_of_laid hL
  match gs, hV with
  | [g, g2], _ =>
    refine (fnFindAll_any _ ps0 ga oa W hl0 hw0 hP0 hCan).mono fun e W' ⟨he, hb⟩ => ⟨_, he, ?_⟩
    exact law_post laidOut (by kernel_rfl) (by kernel_rfl) rfl Tryz.underlying4 rfl (ok_one (by kernel_rfl) rfl (okWide_bool_mk Tryz.underlying4 _)) hW' hb

theorem laid_met (os : Os) (args : Array Value) : laidMetH Tryz.prog Rows.fnFindAllRow.laid ((World.doorLaid Tryz.prog 47 os).forCall (fun _ _ => 0) ⟨#[], args, []⟩).memory :=
  laidMetH_of_parts3 (fuel := 8) (laidMet_of_run' 8 (by kernel_rfl) (by kernel_rfl)) (by kernel_rfl) (by kernel_rfl)

set_option maxRecDepth 100000 in
theorem lifted (os : Os) (started : os.Started) (H : Type) (enc : TypeId × Value → H) :
    ReturnsInHanded {} Tryz.checked os 6 .any (fun w args => (Rows.fnFindAllSpec.pre enc Tryz.prog Tryz.f6 [] false w args ∧ laidMetH Tryz.prog Rows.fnFindAllRow.laid w) ∧ sizedMet enc Tryz.prog Tryz.f6 (OpenSpec.ofChange Rows.fnFindAllSpec) false w args)
      (Rows.fnFindAllSpec.post enc Tryz.prog Tryz.f6 false true false false) := by
  refine returnsInHanded_of_change_and (C := Tryz.checked) (X := fun w _ => laidMetH Tryz.prog Rows.fnFindAllRow.laid w) (fun _ _ _ hh h => h.of_heap hh) own started (by kernel_rfl) Tryz.func6
    (ChangeSpec.witness_shaped (enc := enc) (C := Tryz.checked) (os := os) (X := fun w _ => laidMetH Tryz.prog Rows.fnFindAllRow.laid w) false (World.doorLaid Tryz.prog 47 os) #[.slice none 0 0] 8 rfl (World.shaped_of_RefB (by kernel_rfl) (by kernel_rfl)) (by kernel_rfl) (by kernel_rfl) (by kernel_rfl) (laid_met os _)) ?_
  intro W base args ds gs before hval hW _ _ hL _
  exact contract H enc W base args ds gs before hval hW hL

theorem said : Rows.FnFindAllSaid :=
  OpenClaim.holds_of_wide 6 Tryz.f6 rfl rfl rfl rfl rfl rfl rfl ⟨rfl, rfl, rfl, rfl, rfl⟩ rfl rfl rfl rfl rfl (by kernel_rfl) Tryz.func6 (by kernel_rfl)
    (of_decide_eq_true (by kernel_rfl)) (by unfold Func.isWrapper; first | (rw [if_pos (by decide +kernel)]; kernel_rfl) | (rw [if_neg (by decide +kernel)]; exact ⟨rfl, rfl⟩))
    (fun os started H enc _ => lifted os started H enc)

theorem plain (f : FuncId) (fn : Func) (hf : Tryz.pinned.checked.prog.funcNamed "loop.example/pub-g01467/laws.FnFindAll" = some f) (hfn : Tryz.pinned.checked.prog.funcs[f]? = some fn) :
    true = Tryz.pinned.checked.prog.looks [] ∧ ∀ (j : Nat) t, fn.params[j]? = some t → Tryz.pinned.checked.prog.wantsStandIn t = false := by
  obtain rfl : f = 6 := Option.some.inj ((show Tryz.prog.funcNamed "loop.example/pub-g01467/laws.FnFindAll" = some 6 by kernel_rfl).symm.trans hf) |>.symm
  obtain rfl : fn = Tryz.f6 := (Option.some.inj (Tryz.func6.symm.trans hfn)).symm
  refine ⟨by kernel_rfl, fun j t ht => ?_⟩
  have hall : (Tryz.f6.params.toList.all fun u => !Tryz.prog.wantsStandIn u) = true := by kernel_rfl
  exact (show Tryz.prog.wantsStandIn t = false by simpa using List.all_eq_true.1 hall t (by simpa using Array.mem_of_getElem? ht))

theorem card : Rows.FnFindAllCardSaid :=
  Claim7.holds_tied_plain_at .later [] _ _ _ _ said (fun _ h => by cases h) (by kernel_rfl) (fun _ h => by cases h) fnFindAll_row_tie rfl ⟨rfl, rfl⟩ (by kernel_rfl) rfl plain (by kernel_rfl)
end Go.Proofs.YtanfimeajalffaaGreatDoor.fnFindAll
