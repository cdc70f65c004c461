/-
  Packages that are read ahead of a block are read ahead of a later one, too. No condition: lemmas alone.
-/
import Derived.Test.YtanfimeajalffaaGreatDoorZZEncode
namespace Go.Proofs.YtanfimeajalffaaGreatDoor
open Go.RowKit

theorem FileR.more {w : World} {B B' : Nat} {cs : List Value} {f : FileD} (h : FileR w B cs f) (hB : B ≤ B') : FileR w B' cs f := by
  obtain ⟨vc, vi, ve, vd, e, a, b, c, d⟩ := h
  exact ⟨vc, vi, ve, vd, e, a.more hB, b.more hB, c.more hB, d.more hB⟩
theorem PkgR.more {w : World} {B B' : Nat} {cs : List Value} {p : PkgD} (h : PkgR w B cs p) (hB : B ≤ B') : PkgR w B' cs p := by
  obtain ⟨vf, e, h⟩ := h
  exact ⟨vf, e, (h.more hB).imp fun _ _ h => h.more hB⟩
theorem PkgsAt.more {w : World} {B B' : Nat} {v : Value} {ps : List PkgD} (h : PkgsAt w B v ps) (hB : B ≤ B') : PkgsAt w B' v ps := (ListAt.more h hB).imp fun _ _ h => h.more hB
end Go.Proofs.YtanfimeajalffaaGreatDoor
