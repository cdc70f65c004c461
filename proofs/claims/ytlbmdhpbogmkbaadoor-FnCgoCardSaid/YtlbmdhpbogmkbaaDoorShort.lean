/-
  The contract of short: a slice of texts, each of at most 1000 bytes or not.
-/
import Derived.Test.YtlbmdhpbogmkbaaDoorRows
import Derived.Test.YtlbmdhpbogmkbaaDoorWords
import Derived.WalkKit
import Derived.WalkSpells
import Derived.WalkLawsBesides
import Derived.Lib.Hide
import Derived.Outline
import Derived.Deep.LoopGhost
namespace Go.Proofs.YtlbmdhpbogmkbaaDoor
open Go.RowKit

def shortB (ss : List ByteArray) : Bool := ss.all fun s => decide (s.size ≤ 1000)

theorem shortB_take_succ (ss : List ByteArray) (k : Nat) (hk : k < ss.length) : shortB (ss.take (k + 1)) = (shortB (ss.take k) && decide (ss[k].size ≤ 1000)) := by
  unfold shortB
  rw [List.take_succ_eq_append_getElem hk]
  simp only [List.all_append, List.all_cons, List.all_nil, Bool.and_true]

theorem shortB_of_take {ss : List ByteArray} {k : Nat} (h : shortB (ss.take k) = false) : shortB ss = false := by
  unfold shortB at *
  rw [List.all_eq_false] at *
  obtain ⟨x, hx, h⟩ := h
  exact ⟨x, List.mem_of_mem_take hx, h⟩

set_option maxHeartbeats 400000 in
theorem short_any (A : Option Addr) (c B : Nat) (ss : List ByteArray) (n : Nat) (w : World) (hn : ss.length = n) (hr : Reads w B 1 A n (ss.map Value.string)) (hm : n ≤ 9223372036854775807) (hz : ∀ s ∈ ss, s.size ≤ 9223372036854775807) :
    Calls Tryd.prog 6 #[.slice A n c] w fun e w' => e = .returned (.bool (shortB ss)) ∧ w = w' := by
  go_enter Tryd.func6, Tryd.ntmps6
  go_wp2
  go_loop [4, 7] (fun _ i => ∃ k : Nat, k ≤ n ∧ i = .int .i64 k ∧ shortB (ss.take k) = true) (fun _ i => n - (intOf i).toNat)
  case atStart => exact ⟨0, Nat.zero_le _, rfl, rfl⟩
  case round =>
    obtain ⟨k, hk, rfl, hs⟩ := hrel
    have HS := Lib.hid hs
    clear hs
    by_cases hlt : k < n
    · obtain ⟨ad, u, rfl, _, hu, hc⟩ := hr.at_ hlt
      have hkl : k < ss.length := by omega
      have hu2 : u = .string ss[k] := by simpa [hkl] using hu.symm
      subst hu2
      have hsz := hz ss[k] (List.getElem_mem hkl)
      have HT := Lib.hid (shortB_take_succ ss k hkl)
      clear hu hz
      have HR := Lib.hid hr
      clear hr
      generalize hsk : ss[k] = s at hc hsz HT
      clear hsk
      by_cases h1 : 1000 < s.size
      · go_wp2
        go_ret
        refine ⟨?_, rfl⟩
        have := shortB_of_take (ss := ss) (k := k + 1) (by rw [HT.out]; simp; omega)
        rw [this]
        rfl
      · go_wp2
        go_round
        case rel => exact ⟨k + 1, by omega, by go_num, by rw [HT.out, HS.out]; simp; omega⟩
        case measure => simp [intOf]; omega
    · go_wp2
      go_ret
      refine ⟨?_, rfl⟩
      have := HS.out
      rw [List.take_of_length_le (by omega)] at this
      rw [this]
      rfl
end Go.Proofs.YtlbmdhpbogmkbaaDoor
