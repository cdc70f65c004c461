/-
  FnApart, whole: different packages have different indices. No condition of ours: every input of the law.
-/
import Derived.Test.YtanfimeajalffaaFrameG
import Derived.Test.YtanfimeajalffaaLawApart
import Derived.Test.YtanfimeajalffaaOpen
namespace Go.Proofs.Ytanfimeajalffaa.fnApart
open Go.ChangeShapes Go.WideShapes Go.ChangeAt Go.RowKit

set_option maxRecDepth 100000 in
theorem contract (H : Type) (enc : TypeId × Value → H) (W : World) (base : Nat) (args : Array Value) (ds gs : List (DataW H)) (before : List MemPlace)
    (hval : ∀ (j : Nat) t v, Try.f3.params[j]? = some t → args[j]? = some v → Value.okWide Try.prog W .any base t v)
    (hW : DataW.Whole enc Try.prog Try.f3.params.toList Rows.fnApartSpec.vars false W args.toList ds gs before) :
    Calls Try.prog 3 args W fun e W' => ∃ v, e = .returned v ∧ Rows.fnApartSpec.post enc Try.prog Try.f3 false true false false W args v W' := by
  have hW' := hW
  obtain ⟨p, q, hA0, hV, rfl, hfz, hnd⟩ := hW
  have hA : DataW.TrodAll enc Try.prog W 0 (fun _ => true) true Try.f3.params.toList args.toList ds p := hA0
  rw [Try.params3] at hA hval
  obtain ⟨v0, v1, d0, d1, p0, p1, rfl, rfl, rfl, h0, h1⟩ := trodAll_two hA
  have hk0 := hval 0 22 v0 rfl rfl
  have hk1 := hval 1 22 v1 rfl rfl
  obtain ⟨a0, len0, cap0, rfl⟩ := okWide_slice Try.underlying22 hk0
  obtain ⟨a1, len1, cap1, rfl⟩ := okWide_slice Try.underlying22 hk1
  obtain ⟨f0, hf0⟩ := h0
  obtain ⟨f1, hf1⟩ := h1
  obtain ⟨u0, ps, e0, hl0, hw0, hP0⟩ := open_pkgs hf0
  obtain ⟨u1, qs, e1, hl1, hw1, hP1⟩ := open_pkgs hf1
  simp [Value.cells] at e0 e1
  subst e0
  subst e1
  match gs, hV with
  | [], _ =>
    refine (fnApart_any _ _ ps qs W hl0 hl1 hw0 hw1 hP0 hP1).mono fun e W' ⟨he, hb⟩ => ⟨_, he, ?_⟩
    exact law_post laidOut (by kernel_rfl) (by kernel_rfl) rfl Try.underlying4 rfl (ok_one (by kernel_rfl) rfl (okWide_bool_mk Try.underlying4 _)) hW' hb

set_option maxRecDepth 100000 in
theorem lifted (os : Os) (started : os.Started) (H : Type) (enc : TypeId × Value → H) :
    ReturnsInHanded {} Try.checked os 3 .any (Rows.fnApartSpec.pre6 enc Try.prog Try.f3 Rows.fnApartRow.domain false) (Rows.fnApartSpec.post enc Try.prog Try.f3 false true false false) := by
  refine returnsInHanded_of_change (C := Try.checked) own started (by kernel_rfl) Try.func3
    (ChangeSpec.witness6 (enc := enc) (C := Try.checked) false ⟨#[], #[.slice none 0 0, .slice none 0 0], []⟩ 8 (by kernel_rfl) (by kernel_rfl) (by kernel_rfl) (by kernel_rfl)) ?_
  intro W base args ds gs before hval hW _ _
  exact contract H enc W base args ds gs before hval hW

theorem said : Rows.FnApartSaid :=
  OpenClaim.holds_of_wide 3 Try.f3 rfl rfl rfl rfl rfl rfl rfl ⟨rfl, rfl, rfl, rfl, rfl⟩ rfl rfl rfl rfl rfl (by kernel_rfl) Try.func3 (by kernel_rfl)
    (of_decide_eq_true (by kernel_rfl)) (by unfold Func.isWrapper; first | (rw [if_pos (by decide +kernel)]; kernel_rfl) | (rw [if_neg (by decide +kernel)]; exact ⟨rfl, rfl⟩))
    (fun os started H enc _ => lifted os started H enc)
end Go.Proofs.Ytanfimeajalffaa.fnApart
