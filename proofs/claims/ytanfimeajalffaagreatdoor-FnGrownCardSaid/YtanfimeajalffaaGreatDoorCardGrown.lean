/-
  FnGrown, whole: the tied card. An index that has grown by a package tells the packages it told ahead of it, and that package. No condition of ours: every input of the law. The listed variables are tied to the program's text by the given tie.
-/
import Derived.Test.YtanfimeajalffaaGreatDoorFrame2
import Derived.Test.YtanfimeajalffaaGreatDoorLawGrownZ
import Derived.Test.YtanfimeajalffaaGreatDoorOpen
namespace Go.Proofs.YtanfimeajalffaaGreatDoor.fnGrown
open Go.ChangeShapes Go.WideShapes Go.ChangeAt Go.RowKit
open Go.ChangeMaps (open_string shut_string)

set_option maxRecDepth 100000 in
theorem contract (H : Type) (enc : TypeId × Value → H) (W : World) (base : Nat) (args : Array Value) (ds gs : List (DataW H)) (before : List MemPlace)
    (hval : ∀ (j : Nat) t v, Tryz.f5.params[j]? = some t → args[j]? = some v → Value.okWide Tryz.prog W .any base t v)
    (hW : DataW.Whole enc Tryz.prog Tryz.f5.params.toList Rows.fnGrownSpec.vars false W args.toList ds gs before) (hL : laidMet Tryz.prog Rows.fnGrownRow.laid W) :
    Calls Tryz.prog 5 args W fun e W' => ∃ v, e = .returned v ∧ Rows.fnGrownSpec.post enc Tryz.prog Tryz.f5 false true false false W args v W' := by
  have hW' := hW
  obtain ⟨p, q, hA0, hV, rfl, hfz, hnd⟩ := hW
  have hA : DataW.TrodAll enc Tryz.prog W 0 (fun _ => true) true Tryz.f5.params.toList args.toList ds p := hA0
  rw [Tryz.params5] at hA hval
  obtain ⟨v0, v1, d0, d1, p0, p1, rfl, rfl, rfl, h0, h1⟩ := trodAll_two hA
  have hk0 := hval 0 22 v0 rfl rfl
  obtain ⟨a0, len0, cap0, rfl⟩ := okWide_slice Tryz.underlying22 hk0
  obtain ⟨f0, hf0⟩ := h0
  obtain ⟨u0, ps0, e0, hl0, hw0, hP0⟩ := open_pkgs hf0
  simp [Value.cells] at e0
  subst e0
  have hcp : ∀ A n c, Value.slice a0 len0 cap0 = .slice A n c → n ≤ c := by
    intro A n c he
    injection he with _ h2 h3
    rcases Go.Deep.open_slice Tryz.underlying22 hf0 with ⟨e, _⟩ | ⟨a, len, cap, m, n', D, Pl, e, _, hl, _⟩
    · simp [Value.cells] at e
      obtain ⟨_, e1, e2⟩ := e
      omega
    · simp [Value.cells] at e
      obtain ⟨_, e1, e2⟩ := e
      omega
  have hk1 := hval 1 32 v1 rfl rfl
  obtain ⟨cs1, rfl, _⟩ := okWide_struct Tryz.underlying32 hk1
  obtain ⟨f1, hf1⟩ := h1
  obtain ⟨pp1, hR1, hW1⟩ := open_pkg hf1
  obtain ⟨ga, oa, hCan⟩ := cannot_of_laid hL
  match gs, hV with
  | [g, g2], _ =>
    refine (fnGrown_any _ ps0 cs1.toList pp1 ga oa W hl0 hw0 hP0 hW1 hR1 hCan hcp).mono fun e W' ⟨he, hb⟩ => ⟨_, he, ?_⟩
    exact law_post laidOut (by kernel_rfl) (by kernel_rfl) rfl Tryz.underlying4 rfl (ok_one (by kernel_rfl) rfl (okWide_bool_mk Tryz.underlying4 _)) hW' hb

theorem laid_met (os : Os) (args : Array Value) : laidMetH Tryz.prog Rows.fnGrownRow.laid ((World.doorLaid Tryz.prog 47 os).forCall (fun _ _ => 0) ⟨#[], args, []⟩).memory :=
  laidMetH_of_parts3 (fuel := 8) (laidMet_of_run' 8 (by kernel_rfl) (by kernel_rfl)) (by kernel_rfl) (by kernel_rfl)

set_option maxRecDepth 100000 in
theorem lifted (os : Os) (started : os.Started) (H : Type) (enc : TypeId × Value → H) :
    ReturnsInHanded {} Tryz.checked os 5 .any (fun w args => (Rows.fnGrownSpec.pre enc Tryz.prog Tryz.f5 [] false w args ∧ laidMetH Tryz.prog Rows.fnGrownRow.laid w) ∧ sizedMet enc Tryz.prog Tryz.f5 (OpenSpec.ofChange Rows.fnGrownSpec) false w args)
      (Rows.fnGrownSpec.post enc Tryz.prog Tryz.f5 false true false false) := by
  refine returnsInHanded_of_change_and (C := Tryz.checked) (X := fun w _ => laidMetH Tryz.prog Rows.fnGrownRow.laid w) (fun _ _ _ hh h => h.of_heap hh) own started (by kernel_rfl) Tryz.func5
    (ChangeSpec.witness_shaped (enc := enc) (C := Tryz.checked) (os := os) (X := fun w _ => laidMetH Tryz.prog Rows.fnGrownRow.laid w) false (World.doorLaid Tryz.prog 47 os) #[.slice none 0 0, .agg #[.string ByteArray.empty, .string ByteArray.empty, .slice none 0 0]] 8 rfl (World.shaped_of_RefB (by kernel_rfl) (by kernel_rfl)) (by kernel_rfl) (by kernel_rfl) (by kernel_rfl) (laid_met os _)) ?_
  intro W base args ds gs before hval hW _ _ hL _
  exact contract H enc W base args ds gs before hval hW hL

theorem said : Rows.FnGrownSaid :=
  OpenClaim.holds_of_wide 5 Tryz.f5 rfl rfl rfl rfl rfl rfl rfl ⟨rfl, rfl, rfl, rfl, rfl⟩ rfl rfl rfl rfl rfl (by kernel_rfl) Tryz.func5 (by kernel_rfl)
    (of_decide_eq_true (by kernel_rfl)) (by unfold Func.isWrapper; first | (rw [if_pos (by decide +kernel)]; kernel_rfl) | (rw [if_neg (by decide +kernel)]; exact ⟨rfl, rfl⟩))
    (fun os started H enc _ => lifted os started H enc)

theorem plain (f : FuncId) (fn : Func) (hf : Tryz.pinned.checked.prog.funcNamed "loop.example/pub-g01467/laws.FnGrown" = some f) (hfn : Tryz.pinned.checked.prog.funcs[f]? = some fn) :
    true = Tryz.pinned.checked.prog.looks [] ∧ ∀ (j : Nat) t, fn.params[j]? = some t → Tryz.pinned.checked.prog.wantsStandIn t = false := by
  obtain rfl : f = 5 := Option.some.inj ((show Tryz.prog.funcNamed "loop.example/pub-g01467/laws.FnGrown" = some 5 by kernel_rfl).symm.trans hf) |>.symm
  obtain rfl : fn = Tryz.f5 := (Option.some.inj (Tryz.func5.symm.trans hfn)).symm
  refine ⟨by kernel_rfl, fun j t ht => ?_⟩
  have hall : (Tryz.f5.params.toList.all fun u => !Tryz.prog.wantsStandIn u) = true := by kernel_rfl
  exact (show Tryz.prog.wantsStandIn t = false by simpa using List.all_eq_true.1 hall t (by simpa using Array.mem_of_getElem? ht))

theorem card : Rows.FnGrownCardSaid :=
  Claim7.holds_tied_plain_at .later [] _ _ _ _ said (fun _ h => by cases h) (by kernel_rfl) (fun _ h => by cases h) fnGrown_row_tie rfl ⟨rfl, rfl⟩ (by kernel_rfl) rfl plain (by kernel_rfl)
end Go.Proofs.YtanfimeajalffaaGreatDoor.fnGrown
