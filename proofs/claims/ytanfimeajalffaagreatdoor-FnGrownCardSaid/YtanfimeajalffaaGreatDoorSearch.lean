/-
  What the search for a folder finds, in folders that stand in their order, each once. Plain Lean; the premises of each theorem are its conditions.
-/
import Derived.Test.YtanfimeajalffaaGreatDoorIndexOk
namespace Go.Proofs.YtanfimeajalffaaGreatDoor
open Go.RowKit

theorem cmp_trans : ∀ a b c : List UInt8, Lib.compareBytes a b = -1 → Lib.compareBytes b c = -1 → Lib.compareBytes a c = -1
  | [], [], _, h, _ => by simp [Lib.compareBytes] at h
  | [], _ :: _, [], _, h => by simp [Lib.compareBytes] at h
  | [], _ :: _, _ :: _, _, _ => rfl
  | _ :: _, [], _, h, _ => by simp [Lib.compareBytes] at h
  | _ :: _, _ :: _, [], _, h => by simp [Lib.compareBytes] at h
  | x :: a, y :: b, z :: c, h, k => by
    have ih := cmp_trans a b c
    unfold Lib.compareBytes at h k ⊢
    simp only [UInt8.lt_iff_toNat_lt] at h k ⊢
    split at h
    · split at k
      · rw [if_pos (by omega)]
      · split at k
        · simp at k
        · rw [if_pos (by omega)]
    · split at h
      · simp at h
      · split at k
        · rw [if_pos (by omega)]
        · split at k
          · simp at k
          · rw [if_neg (by omega), if_neg (by omega)]
            exact ih h k
/-- The folder d against the k-th folder. -/
def cmpAt (ps : List PkgD) (d : ByteArray) (k : Nat) (hk : k < ps.length) : Int := Lib.compareBytes d.data.toList ps[k].dir.data.toList

theorem Strict.lt {ps : List PkgD} (h : Strict ps) (i : Nat) : ∀ j (hj : j < ps.length) (hij : i < j), Lib.compareBytes (ps[i]'(by omega)).dir.data.toList ps[j].dir.data.toList = -1
  | 0, _, hij => absurd hij (by omega)
  | j + 1, hj, hij => by
    have hs := h j hj
    rcases Nat.lt_or_ge i j with h1 | h1
    · exact cmp_trans _ _ _ (Strict.lt h i j (by omega) h1) hs
    · have : i = j := by omega
      subst this
      exact hs
theorem cmp_zero {a b : List UInt8} (h : Lib.compareBytes a b = 0) : a = b := by
  rcases cmp_tri a b with ⟨h1, _⟩ | h1 | ⟨h1, _⟩
  · rw [h] at h1; simp at h1
  · exact h1
  · rw [h] at h1; simp at h1
theorem cmp_pos {a b : List UInt8} (h : 0 < Lib.compareBytes a b) : Lib.compareBytes b a = -1 := by
  rcases cmp_tri a b with ⟨h1, _⟩ | h1 | ⟨_, h1⟩
  · rw [h1] at h; omega
  · subst h1; rw [cmp_refl] at h; omega
  · exact h1
theorem cmp_one {a b : List UInt8} (h : Lib.compareBytes b a = -1) : Lib.compareBytes a b = 1 := by
  rcases cmp_tri a b with ⟨_, h1⟩ | h1 | ⟨h1, _⟩
  · rw [h] at h1; omega
  · subst h1; rw [cmp_refl] at h; omega
  · exact h1
theorem cmp_neg {a b : List UInt8} (h : Lib.compareBytes a b ≤ 0) : Lib.compareBytes a b = -1 ∨ a = b := by
  rcases cmp_tri a b with ⟨h1, _⟩ | h1 | ⟨h1, _⟩
  · exact .inl h1
  · exact .inr h1
  · omega

/-- All folders ahead of i are less than d; all from j on are not. -/
def Lo (ps : List PkgD) (d : ByteArray) (i : Nat) : Prop := ∀ k (hk : k < ps.length), k < i → 0 < cmpAt ps d k hk
def Hi (ps : List PkgD) (d : ByteArray) (j : Nat) : Prop := ∀ k (hk : k < ps.length), j ≤ k → cmpAt ps d k hk ≤ 0
theorem Lo.step {ps : List PkgD} {d : ByteArray} (h : Strict ps) (x : Nat) (hx : x < ps.length) (hc : 0 < cmpAt ps d x hx) : Lo ps d (x + 1) := fun k hk hkx => by
  rcases Nat.lt_or_ge k x with h1 | h1
  · have a := cmp_trans _ _ _ (h.lt k x hx h1) (cmp_pos hc)
    have := cmp_one a
    unfold cmpAt
    omega
  · have : k = x := by omega
    subst this
    exact hc
theorem Hi.step {ps : List PkgD} {d : ByteArray} (h : Strict ps) (x : Nat) (hx : x < ps.length) (hc : cmpAt ps d x hx ≤ 0) : Hi ps d x := fun k hk hkx => by
  rcases Nat.lt_or_ge x k with h1 | h1
  · have a := h.lt x k hk h1
    unfold cmpAt at hc ⊢
    rcases cmp_neg hc with h2 | h2
    · rw [cmp_trans _ _ _ h2 a]
      omega
    · rw [h2, a]
      omega
  · have : k = x := by omega
    subst this
    exact hc
theorem bytes_inj {a b : ByteArray} (h : a.data.toList = b.data.toList) : a = b := by
  have := Array.toList_inj.1 h
  cases a
  cases b
  simp at this
  rw [this]
/-- No package has the folder, where the search ends without one. -/
theorem none_of {ps : List PkgD} {d : ByteArray} {i : Nat} (h : Strict ps) (hl : Lo ps d i) (hh : Hi ps d i) (hn : ∀ hi : i < ps.length, cmpAt ps d i hi ≠ 0) : ∀ p ∈ ps, p.dir ≠ d := fun p hp e => by
  obtain ⟨k, hk, rfl⟩ := List.getElem_of_mem hp
  have hz : cmpAt ps d k hk = 0 := by unfold cmpAt; rw [e]; exact cmp_refl _
  rcases Nat.lt_or_ge k i with h1 | h1
  · have := hl k hk h1
    omega
  · rcases Nat.lt_or_ge i k with h2 | h2
    · have hi : i < ps.length := by omega
      have a := hh i hi (Nat.le_refl _)
      have b := hn hi
      have c := h.lt i k hk h2
      unfold cmpAt at a b hz
      rcases cmp_neg a with h3 | h3
      · rw [cmp_trans _ _ _ h3 c] at hz
        omega
      · rw [h3, cmp_refl] at b
        exact b rfl
    · have : i = k := by omega
      subst this
      exact hn hk hz
theorem one_of {ps : List PkgD} {d : ByteArray} {i : Nat} (hi : i < ps.length) (hz : cmpAt ps d i hi = 0) : ps[i].dir = d := (bytes_inj (cmp_zero hz)).symm
end Go.Proofs.YtanfimeajalffaaGreatDoor
