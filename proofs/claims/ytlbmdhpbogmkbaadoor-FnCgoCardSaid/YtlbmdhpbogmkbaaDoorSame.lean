/-
  The contract of SameTexts: two slices of texts, equal or not. Condition: lengths as Go's own.
-/
import Derived.Test.YtlbmdhpbogmkbaaDoorRows
import Derived.Test.YtlbmdhpbogmkbaaDoorWords
import Derived.WalkKit
import Derived.WalkSpells
import Derived.WalkLawsBesides
import Derived.Lib.Hide
import Derived.Outline
import Derived.Deep.LoopGhost
import Derived.Lib.Strings
import Derived.Lib.IndexBytes
namespace Go.Proofs.YtlbmdhpbogmkbaaDoor
open Go.RowKit

/-- Two lists of texts are equal. -/
def sameB (xs ys : List ByteArray) : Bool := decide (xs = ys)

theorem ba_ne {x y : ByteArray} (h : x ≠ y) : (x.toList == y.toList) = false := by
  rw [Lib.toList_data, Lib.toList_data]
  simp only [beq_eq_false_iff_ne, ne_eq]
  intro e
  exact h (Go.WideShapes.bytes_inj e)

theorem ba_eq (x : ByteArray) : (x.toList == x.toList) = true := by simp

set_option maxHeartbeats 1000000 in
theorem sameTexts_any (A1 A2 : Option Addr) (c1 c2 B : Nat) (xs ys : List ByteArray) (n m : Nat) (w : World) (hn : xs.length = n) (hm : ys.length = m) (h1 : Reads w B 1 A1 n (xs.map Value.string)) (h2 : Reads w B 1 A2 m (ys.map Value.string))
    (hb : n ≤ 9223372036854775807) (hb2 : m ≤ 9223372036854775807) :
    Calls Tryd.prog 12 #[.slice A1 n c1, .slice A2 m c2] w fun e w' => e = .returned (.bool (sameB xs ys)) ∧ w = w' := by
  by_cases hnm : n = m
  · obtain rfl : m = n := hnm.symm
    go_enter Tryd.func12, Tryd.ntmps12
    go_wp2
    go_loop [5, 6, 14] (fun _ _ i => ∃ k : Nat, k ≤ m ∧ i = .int .i64 k ∧ xs.take k = ys.take k) (fun _ _ i => m - (intOf i).toNat)
    case atStart => exact ⟨0, Nat.zero_le _, rfl, rfl⟩
    case round =>
      obtain ⟨k, hk, rfl, hs⟩ := hrel
      have HS := Lib.hid hs
      clear hs
      by_cases hlt : k < m
      · obtain ⟨ad, u, rfl, _, hu, hc⟩ := h1.at_ hlt
        obtain ⟨ad2, u2, rfl, _, hu2, hc2⟩ := h2.at_ hlt
        have hkx : k < xs.length := by omega
        have hky : k < ys.length := by omega
        obtain rfl : u = .string xs[k] := by simpa [hkx] using hu.symm
        obtain rfl : u2 = .string ys[k] := by simpa [hky] using hu2.symm
        clear hu hu2
        by_cases he : xs[k] = ys[k]
        · have hstep : xs.take (k + 1) = ys.take (k + 1) := by
            rw [List.take_succ_eq_append_getElem hkx, List.take_succ_eq_append_getElem hky, HS.out, he]
          have HST := Lib.hid hstep
          have ht := ba_eq ys[k]
          rw [he] at hc
          clear hstep he
          generalize ys[k] = y at hc hc2 ht
          go_wp2
          go_round
          case rel => exact ⟨k + 1, by omega, by go_num, HST.out⟩
          case measure => simp [intOf]; omega
        · have hf : sameB xs ys = false := by
            unfold sameB
            simp only [decide_eq_false_iff_not]
            intro e
            subst e
            exact he rfl
          have HF := Lib.hid hf
          have ht := ba_ne he
          clear hf he
          generalize ys[k] = y at hc2 ht
          generalize xs[k] = x at hc ht
          go_wp2
          go_ret
          exact ⟨by rw [HF.out]; rfl, rfl⟩
      · have hf : sameB xs ys = true := by
          unfold sameB
          have := HS.out
          rw [List.take_of_length_le (by omega), List.take_of_length_le (by omega)] at this
          simpa using this
        have HF := Lib.hid hf
        clear hf
        go_wp2
        go_ret
        exact ⟨by rw [HF.out]; rfl, rfl⟩
  · have hf : sameB xs ys = false := by
      unfold sameB
      simp only [decide_eq_false_iff_not]
      intro e
      subst e
      omega
    have HF := Lib.hid hf
    have hne : ((n : Int) != (m : Int)) = true := by rw [bne_iff_ne]; omega
    clear hf hnm
    go_enter Tryd.func12, Tryd.ntmps12
    go_wp2
    go_ret
    exact ⟨by rw [HF.out]; rfl, rfl⟩
end Go.Proofs.YtlbmdhpbogmkbaaDoor
