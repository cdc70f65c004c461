/-
  The contract of SameTexts: it tells whether two lists of texts are equal. Conditions: the premises of each theorem.
-/
import Derived.Test.YtanfimeajalffaaDoorTyped
import Derived.Test.YtanfimeajalffaaDoorRegion
import Derived.Test.YtanfimeajalffaaDoorFits
import Derived.Deep.DrawnRows
namespace Go.Proofs.YtanfimeajalffaaDoor
open Go.RowKit
attribute [local go_sem ↓] Go.wp_at_zero Go.wp_at_succ

/-- An answer that says just whether p; what lay there lies there still. -/
def Exact (p : Prop) (w : World) (e : Ending) (w' : World) : Prop := ∃ b : Bool, e = .returned (.bool b) ∧ Below w.heap.size w w' ∧ (b = true ↔ p)

theorem bytes_ne {s t : ByteArray} (h : s ≠ t) : s.toList ≠ t.toList := by
  intro e
  rw [ByteArray.toList_eq, ByteArray.toList_eq] at e
  have e2 := Array.toList_inj.1 e
  cases s
  cases t
  exact h (congrArg ByteArray.mk e2)

theorem bytes_eq {s t : ByteArray} (h : s.toList = t.toList) : s = t := Classical.byContradiction fun hn => bytes_ne hn h
theorem dir_ext {d e : DirD} (h1 : d.text = e.text) (h2 : d.at_.fn = e.at_.fn) (h3 : d.at_.o = e.at_.o) (h4 : d.at_.l = e.at_.l) (h5 : d.at_.c = e.at_.c) : d = e := by
  obtain ⟨a, b, c, x, y⟩ := d
  obtain ⟨a', b', c', x', y'⟩ := e
  simp only at h1 h2 h3 h4 h5
  rw [h1, h2, h3, h4, h5]
theorem below_drewN {B : Nat} {a w : World} (h : Below B a w) (n : Nat) : Below B a (w.drewN n) := ⟨h.os, h.tape, h.output, h.size, h.block⟩
theorem below_drewN' {B : Nat} {a w : World} (h : Below B a w) (n : Nat) : Below B a (w.drewN n) := below_drewN h n

theorem eq_of_take {α : Type} {xs ys : List α} (hl : xs.length = ys.length) (h : ∀ j x y, j < xs.length → xs[j]? = some x → ys[j]? = some y → x = y) : xs = ys := by
  refine List.ext_getElem hl fun i h1 h2 => h i _ _ h1 (List.getElem?_eq_getElem h1) (List.getElem?_eq_getElem h2)
/-- So far alike. -/
def Alike_ {α : Type} (xs ys : List α) (k : Nat) : Prop := ∀ j x y, j < k → xs[j]? = some x → ys[j]? = some y → x = y
theorem alike_succ {α : Type} {xs ys : List α} {k : Nat} (h : Alike_ xs ys k) (h1 : k < xs.length) (h2 : k < ys.length) (he : xs[k] = ys[k]) : Alike_ xs ys (k + 1) := by
  intro j x y hj hx hy
  by_cases hjk : j = k
  · subst hjk
    rw [List.getElem?_eq_getElem h1] at hx
    rw [List.getElem?_eq_getElem h2] at hy
    injection hx with hx
    injection hy with hy
    rw [← hx, ← hy, he]
  · exact h j x y (by omega) hx hy
theorem alike_ne {α : Type} {xs ys : List α} {k : Nat} (h1 : k < xs.length) (h2 : k < ys.length) (he : xs[k] ≠ ys[k]) : xs ≠ ys := by
  rintro rfl
  exact he rfl

set_option maxHeartbeats 1000000 in
theorem sameTexts_any (B : Nat) (u v : Value) (xs ys : List ByteArray) (w : World) (hl : xs.length ≤ 9223372036854775807) (hx : StrsAt w B u xs) (hy : StrsAt w B v ys) :
    Calls Tryd.prog 11 #[u, v] w (Exact (xs = ys) w) := by
  obtain ⟨A, c, rfl, hrx⟩ := hx
  obtain ⟨A', c', rfl, hry⟩ := hy
  have HX := Lib.hid hrx
  have HY := Lib.hid hry
  clear hrx hry
  by_cases hlen : (xs.length : Int) = (ys.length : Int)
  · have hle : ys.length ≤ xs.length := by omega
    have hge : xs.length ≤ ys.length := by omega
    go_enter Tryd.func11, Tryd.ntmps11
    go_wp2_with fail
    go_loop [5, 6, 14] (fun _ _ i => ∃ k : Nat, k ≤ xs.length ∧ i = .int .i64 k ∧ Alike_ xs ys k) (fun _ _ i => xs.length - (intOf i).toNat)
    case atStart => exact ⟨0, Nat.zero_le _, rfl, fun j _ _ h => by omega⟩
    case round =>
      obtain ⟨k, hk, rfl, hal⟩ := hrel
      by_cases hlt : k < xs.length
      · have hlt2 : k < ys.length := by omega
        obtain ⟨ag, ao, rfl, hab, hc0⟩ := StrsAt.cell HX.out k hlt
        obtain ⟨bg, bo, rfl, hbb, hd0⟩ := StrsAt.cell HY.out k hlt2
        have HS := Lib.hid (alike_succ hal hlt hlt2)
        have HN : Hid (xs[k] ≠ ys[k] → xs ≠ ys) := Lib.hid (alike_ne hlt hlt2)
        generalize xs[k] = s at hc0 HS HN
        generalize ys[k] = t at hd0 HS HN
        clear hal
        by_cases hst : s = t
        · subst hst
          go_wp2_with fail
          go_round
          case rel => exact ⟨k + 1, by omega, by go_num, HS.out rfl⟩
          case measure => simp [intOf]; omega
        · have hb1 := bytes_ne hst
          have hb2 : (s.toList == t.toList) = false := by simpa using hb1
          go_wp2_with fail
          go_ret
          exact ⟨_, rfl, Below.refl _ _, by simp [HN.out hst]⟩
      · have hkl : k = xs.length := by omega
        subst hkl
        have HE : Hid (xs = ys) := Lib.hid (eq_of_take (by omega) hal)
        clear hal
        go_wp2_with fail
        go_ret
        exact ⟨_, rfl, Below.refl _ _, by simp [HE.out]⟩
  · have HNE : Hid (xs ≠ ys) := Lib.hid (by rintro rfl; exact hlen rfl)
    go_enter Tryd.func11, Tryd.ntmps11
    go_wp2_with fail
    go_ret
    exact ⟨_, rfl, Below.refl _ _, by simp [HNE.out]⟩
end Go.Proofs.YtanfimeajalffaaDoor
