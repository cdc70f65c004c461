/-
  The law FnIntOut as a call: whatever the bytes and the place, it returns true and leaves what was there.
-/
import Derived.Test.YtopajiokchpgbaaDoorLawIntAt
namespace Go.Proofs.YtopajiokchpgbaaDoor
open Go.RowKit

theorem num_zero : num [0, 0, 0, 0] 0 = 0 := by decide

set_option maxHeartbeats 1000000 in
theorem fnIntOut_any (v : Value) (l : List UInt8) (off : Int) (a : Addr) (w : World) (hE : w.cell? ⟨0, 0, none⟩ = some (.iface 56 (.pointer (some a)))) (hb : BS w v l)
    (hlo : -9223372036854775808 ≤ off) (hhi : off ≤ 9223372036854775807) :
    Calls Tryd.prog 4 #[v, .int .i64 off] w fun e w' => e = .returned (.bool true) ∧ Below w.heap.size w w' := by
  obtain ⟨A, c, rfl, hA⟩ := id hb
  have hbm : l.length ≤ 9223372036854775807 := by have h := hA.1; have h2 := hA.2.1; simp only [maxLen] at h2; omega
  clear hA
  have h0 := World.block_lt_of_cell? w _ hE
  by_cases h1 : 2147483647 < l.length
  · go_enter Tryd.func4, Tryd.ntmps4
    go_wp2
    go_ret
    exact ⟨rfl, Below.refl _ _⟩
  by_cases h2 : 300 < l.length
  · go_enter Tryd.func4, Tryd.ntmps4
    go_wp2
    go_ret
    exact ⟨rfl, Below.refl _ _⟩
  by_cases h3 : off > 1000000
  · by_cases h4 : off + 4 ≤ 9223372036854775807
    · go_enter Tryd.func4, Tryd.ntmps4
      go_wp2
      go_ret
      exact ⟨rfl, Below.refl _ _⟩
    · go_enter Tryd.func4, Tryd.ntmps4
      go_wp2
      all_goals (go_ret; exact ⟨rfl, Below.refl _ _⟩)
  by_cases h4 : off < -1000000
  · go_enter Tryd.func4, Tryd.ntmps4
    go_wp2
    go_ret
    exact ⟨rfl, Below.refl _ _⟩
  by_cases h5 : 0 ≤ off ∧ off + 4 ≤ l.length
  · obtain ⟨h5, h6⟩ := h5
    go_enter Tryd.func4, Tryd.ntmps4
    go_wp2
    go_ret
    exact ⟨rfl, Below.refl _ _⟩
  have h6 : off < 0 ∨ (l.length : Int) < off + 4 := by omega
  have C1 := Lib.hid (intAtImpl_out (.slice A l.length c) l off a w hE hb h6 (by omega) (by omega) (by omega))
  have fin : ∀ w1 : World, Below w.heap.size w w1 → Calls Tryd.prog 7 #[.slice (some ⟨w1.heap.size, 0, none⟩) 4 4, .int .i64 0] (w1.alloc (.cells #[.int .u8 0, .int .u8 0, .int .u8 0, .int .u8 0] 5)) fun e w' => e = .returned (.tuple #[.int .i64 0, .bool true]) ∧ Below w.heap.size w w' := fun w1 hb1 => by
    have hbs : BS (w1.alloc (.cells #[.int .u8 0, .int .u8 0, .int .u8 0, .int .u8 0] 5)) (.slice (some ⟨w1.heap.size, 0, none⟩) 4 4) [0, 0, 0, 0] := bs_new w1 [0, 0, 0, 0] 5 (by simp [maxLen])
    have := intAtImpl_ok _ [0, 0, 0, 0] 0 _ hbs (by decide) (by rw [num_zero]; decide) (by decide)
    rw [num_zero] at this
    refine Calls.mono this ?_
    rintro e w' ⟨rfl, hb2⟩
    exact ⟨rfl, (hb1.alloc hb1.size _).trans (hb2.mono (by have := hb1.size; simp; omega))⟩
  have FIN := Lib.hid fin
  clear fin
  by_cases h7 : off < 0
  · clear h5 h6
    go_enter Tryd.func4, Tryd.ntmps4
    go_wp2_with fail
    refine (C1.out).mono ?_
    rintro e w1 ⟨rfl, hb1⟩
    go_wp2_with fail
    refine (FIN.out w1 hb1).mono ?_
    rintro e w2 ⟨rfl, hb2⟩
    go_wp2
    go_ret
    exact ⟨rfl, hb2⟩
  · have h8 : (l.length : Int) < off + 4 := by omega
    clear h5 h6
    go_enter Tryd.func4, Tryd.ntmps4
    go_wp2_with fail
    refine (C1.out).mono ?_
    rintro e w1 ⟨rfl, hb1⟩
    go_wp2_with fail
    refine (FIN.out w1 hb1).mono ?_
    rintro e w2 ⟨rfl, hb2⟩
    go_wp2
    go_ret
    exact ⟨rfl, hb2⟩
end Go.Proofs.YtopajiokchpgbaaDoor
