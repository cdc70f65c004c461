/-
  A block that is filled from its head on: what make laid, and stores in their order. No condition: lemmas alone.
-/
import Derived.Test.YtanfimeajalffaaDoorTyped
import Derived.Deep.MidRow
import Derived.Laws.MakeOwn
namespace Go.Proofs.YtanfimeajalffaaDoor
open Go.RowKit

/-- Block g of N cells of type t holds xs from its head on. -/
def Fills (w : World) (g : Nat) (t : TypeId) (N : Nat) (xs : List Value) : Prop := ∃ cs : Array Value, Blk w g t cs ∧ cs.size = N ∧ ∀ (j : Nat) (u : Value), xs[j]? = some u → cs[j]? = some u

section
variable {w w' : World} {g N : Nat} {t : TypeId} {xs : List Value}
theorem Fills.grown {row : Option Nat} (h : Fills w g t N xs) (hg : w.grownBy w' row) (hne : some g ≠ row) : Fills w' g t N xs := by
  obtain ⟨cs, h1, h2⟩ := h
  exact ⟨cs, h1.grown hg hne, h2⟩
theorem Fills.below {B : Nat} (h : Fills w g t N xs) (hb : Below B w w') (hg : g < B) : Fills w' g t N xs := by
  obtain ⟨cs, h1, h2⟩ := h
  exact ⟨cs, h1.below hb hg, h2⟩
theorem Fills.drewN (h : Fills w g t N xs) (k : Nat) : Fills (w.drewN k) g t N xs := h
theorem Fills.alloc (h : Fills w g t N xs) (o : Obj) : Fills (w.alloc o) g t N xs := by
  obtain ⟨cs, h1, h2⟩ := h
  exact ⟨cs, h1.alloc o, h2⟩
theorem Fills.lt (h : Fills w g t N xs) : g < w.heap.size := by
  obtain ⟨cs, h1, h2⟩ := h
  exact h1.lt
theorem Fills.made (w : World) (cs : Array Value) (t : TypeId) : Fills (w.alloc (.cells cs t)) w.heap.size t cs.size [] := ⟨cs, Blk.new _ _ _, rfl, fun j u h => by simp at h⟩
theorem Fills.cell (h : Fills w g t N xs) (j : Nat) (hj : j < N) : ∃ u, w.cell? ⟨g, j, none⟩ = some u ∧ w.frozen? ⟨g, j, none⟩ = false := by
  obtain ⟨cs, h1, h2, _⟩ := h
  exact ⟨cs[j], by rw [h1.cell]; exact Array.getElem?_eq_getElem (by omega), h1.frozen j⟩
theorem Fills.there (h : Fills w g t N xs) (o n : Nat) (hn : o + n ≤ N) : w.there g o n := fun j hj => by
  obtain ⟨u, h1, h2⟩ := h.cell (o + j) (by omega)
  exact ⟨by rw [h1]; rfl, h2⟩
theorem Fills.put (h : Fills w g t N xs) (hl : xs.length < N) (u : Value) : Fills (w.setCell ⟨g, xs.length, none⟩ u) g t N (xs ++ [u]) := by
  obtain ⟨cs, h1, h2, h3⟩ := h
  refine ⟨_, h1.set_ xs.length u, by simpa using h2, fun j v hv => ?_⟩
  rw [Array.getElem?_setIfInBounds]
  by_cases e : xs.length = j
  · subst e
    rw [if_pos rfl, if_pos (by omega)]
    simpa using hv
  · rw [if_neg e]
    have hlt := (List.getElem?_eq_some_iff.1 hv).1
    rw [List.length_append] at hlt
    simp at hlt
    rw [List.getElem?_append_left (by omega)] at hv
    exact h3 j v hv
theorem Fills.puts : ∀ (us xs : List Value) (w : World), Fills w g t N xs → xs.length + us.length ≤ N → Fills (w.setCells g xs.length us) g t N (xs ++ us)
  | [], xs, w, h, _ => by simpa [World.setCells] using h
  | u :: us, xs, w, h, hl => by
    rw [List.length_cons] at hl
    have h1 := h.put (by omega) u
    have h2 := Fills.puts us (xs ++ [u]) _ h1 (by simp; omega)
    rw [List.length_append, List.append_assoc] at h2
    exact h2
/-- A row that is filled whole is the call's own. -/
theorem Fills.own {n size base : Nat} (h : Fills w g t (n * size) xs) (hl : xs.length = n * size) (hb : base ≤ g) (hn : n ≤ maxLen) : w.ownsRow base t size (.slice (some ⟨g, 0, none⟩) n n) n xs := by
  obtain ⟨cs, h1, h2, h3⟩ := h
  refine ⟨hl, .inr ⟨g, n, cs, rfl, hb, h1, Nat.le_refl _, hn, h2, ?_⟩⟩
  apply List.ext_getElem?
  intro j
  by_cases hj : j < xs.length
  · rw [List.getElem?_take_of_lt (by omega), Array.getElem?_toList, List.getElem?_eq_getElem hj]
    exact h3 j _ (List.getElem?_eq_getElem hj)
  · rw [List.getElem?_eq_none (l := xs) (by omega), List.getElem?_eq_none]
    rw [List.length_take]
    omega
end
theorem below_setCells {B g : Nat} {a : World} (hg : B ≤ g) : ∀ (us : List Value) (o : Nat) (w : World), Below B a w → Below B a (w.setCells g o us)
  | [], _, _, h => h
  | u :: us, o, w, h => below_setCells hg us (o + 1) _ (h.setCell (by exact hg) u)
end Go.Proofs.YtanfimeajalffaaDoor
