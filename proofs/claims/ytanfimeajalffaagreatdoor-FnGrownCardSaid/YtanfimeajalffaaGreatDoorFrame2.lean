/-
  What the second listed variable holds: the error that tells that there is no package. No condition: a lemma alone.
-/
import Derived.Test.YtanfimeajalffaaGreatDoorFrame
import Derived.Test.YtanfimeajalffaaGreatDoorPackage
namespace Go.Proofs.YtanfimeajalffaaGreatDoor
open Go.ChangeShapes Go.WideShapes Go.ChangeAt Go.RowKit

theorem gCannot : Tryz.prog.globalNamed "loop.example/pub-g01467/pub/modindex.errCannotFindPackage" = some 1 := by kernel_rfl
theorem gCannotType : (Tryz.prog.globals[1]?).map (·.type) = some 47 := by kernel_rfl

set_option maxRecDepth 100000 in
theorem cannot_of_laid {W : World} {v : String × DataW Unit} (h : laidMet Tryz.prog [v, ("loop.example/pub-g01467/pub/modindex.errCannotFindPackage", .iface "*errors.errorString" (.ptr (.agg [.lit (.string [99, 97, 110, 110, 111, 116, 32, 102, 105, 110, 100, 32, 112, 97, 99, 107, 97, 103, 101])])))] W) :
    ∃ ga oa, Cannot W ga oa := by
  obtain ⟨ps, ⟨g0, t0, cs0, f0, p0, q0, hg0, ht0, hv0, hd0, ⟨g1, t1, cs1, f1, p1, q1, hg1, ht1, hv1, hd1, hq1, e1⟩, e0⟩, hnd, hrows⟩ := h
  obtain rfl := Option.some.inj (gCannot.symm.trans hg1)
  obtain rfl := Option.some.inj (gCannotType.symm.trans ht1)
  subst e1
  subst e0
  obtain ⟨l1⟩ := cs1
  have ok1 : ∀ u v, l1 = [.iface u v] → Value.okWide Tryz.prog W .any 0 u v := fun u v e => by
    subst e
    exact (hrows 1 0 (by simp [MemPlace.row])).2 u v (by simpa using World.var?_cell hg1 hv1 0)
  obtain ⟨a1, s1, rfl, hc1, hs1, _, _⟩ := errorString_of_trod Tryz.underlying47 rowES Tryz.underlying144 Tryz.underlying146 rfl rfl Tryz.underlying9 cellsES cellsS hd1 ok1
  obtain ⟨g, o, s⟩ := a1
  have hs : s = none := World.cell?_spot hc1
  subst hs
  refine ⟨g, o, by simpa using World.var?_cell hg1 hv1 0, ?_⟩
  rw [hc1]
  have : s1 = cannotS := by
    obtain ⟨⟨l⟩⟩ := s1
    simp at hs1
    rw [hs1]
  rw [this]
end Go.Proofs.YtanfimeajalffaaGreatDoor
