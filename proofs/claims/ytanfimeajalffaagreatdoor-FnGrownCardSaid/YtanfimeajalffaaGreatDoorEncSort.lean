/-
  slices.SortFunc, where all is sorted already (at most 12): the world is as it was but for draws. Condition: each package's folder is not less than that of the one ahead of it.
-/
import Derived.Test.YtanfimeajalffaaGreatDoorGA
import Derived.Test.YtanfimeajalffaaGreatDoorShelf
import Derived.Deep.LoopGhost
namespace Go.Proofs.YtanfimeajalffaaGreatDoor
open Go.RowKit

set_option maxHeartbeats 1000000 in
theorem cmp_any (g1 g2 : Nat) (d1 d2 : ByteArray) (w : World) (h1 : w.cell? ⟨g1, 1, none⟩ = some (.string d1)) (h2 : w.cell? ⟨g2, 1, none⟩ = some (.string d2)) :
    Calls Tryz.prog 63 #[.pointer (some ⟨g1, 0, none⟩), .pointer (some ⟨g2, 0, none⟩)] w fun e w' => e = .returned (.int .i64 (Lib.compareBytes d1.data.toList d2.data.toList)) ∧ ∃ k, w' = w.drewN k := by
  have H := Lib.hid (Tryz.strings_Compare d1 d2)
  go_enter Tryz.func63, Tryz.ntmps63
  go_wp2
  go_quiet (first | (go_at_call 64; refine Calls.quiet_of_same (H.out _)))
  go_wp2
  go_ret
  refine ⟨rfl, _, rfl⟩

/-- The folders lie in their order, behind pointers. -/
def Sorted (w : World) (B g : Nat) (n : Nat) : Prop :=
  ∀ k, k + 1 < n → ∃ g1 g2 d1 d2, w.cell? ⟨g, k, none⟩ = some (.pointer (some ⟨g1, 0, none⟩)) ∧ w.cell? ⟨g, k + 1, none⟩ = some (.pointer (some ⟨g2, 0, none⟩)) ∧ w.cell? ⟨g1, 1, none⟩ = some (.string d1) ∧ w.cell? ⟨g2, 1, none⟩ = some (.string d2) ∧ g < B ∧ g1 < B ∧ g2 < B ∧
    0 ≤ Lib.compareBytes d2.data.toList d1.data.toList

set_option maxHeartbeats 4000000 in
set_option maxRecDepth 100000 in
theorem insertion_any (B g n c : Nat) (A : Option Addr) (w : World) (hn : n ≤ 12) (hA : 1 < n → A = some ⟨g, 0, none⟩) (hs : Sorted w B g n) :
    Calls Tryz.prog 93 #[.slice A n c, .int .i64 0, .int .i64 (n : Int), (.func (.func 63) #[] #[])] w fun e w' => e = .returned (.tuple #[]) ∧ ∃ k, w' = w.drewN k := by
  go_enter Tryz.func93, Tryz.ntmps93
  go_wp2
  go_loopw [8, 9] (fun i _ wr => ∃ k m : Nat, 1 ≤ k ∧ i = .int .i64 k ∧ wr = w.drewN m) (fun i _ _ => n - (intOf i).toNat)
  case atStart => exact ⟨1, 0, Nat.le_refl _, rfl, rfl⟩
  case round =>
    obtain ⟨k, m, hk, rfl, rfl⟩ := hrel
    by_cases hlt : k < n
    · obtain ⟨g1, g2, d1, d2, c1, c2, e1, e2, _, _, _, hc⟩ := hs (k - 1) (by omega)
      have hAA := hA (by omega)
      subst hAA
      have hk1 : k - 1 + 1 = k := by omega
      rw [hk1] at c2
      have HX := Lib.hid (fun (y : Nat) => (⟨c1, c2, e1, e2⟩ : (w.drewN y).cell? ⟨g, k - 1, none⟩ = some (.pointer (some ⟨g1, 0, none⟩)) ∧ (w.drewN y).cell? ⟨g, k, none⟩ = some (.pointer (some ⟨g2, 0, none⟩)) ∧ (w.drewN y).cell? ⟨g1, 1, none⟩ = some (.string d1) ∧ (w.drewN y).cell? ⟨g2, 1, none⟩ = some (.string d2)))
      have hadd : ∀ a b, (w.drewN a).drewN b = w.drewN (a + b) := fun a b => World.drewN_drewN ..
      have HADD := Lib.hid hadd
      clear c1 c2 e1 e2 hadd
      have b0 : decide ((0 : Int) < (k : Int)) = true := decide_eq_true (by omega)
      have b0' : decide (0 < k) = true := decide_eq_true (by omega)
      have b0'' : 0 < k := by omega
      have b1 : (0 : Int) ≤ (k : Int) := by omega
      have b2 : (k : Int) < (n : Int) := by omega
      have b3 : IntKind.i64.wrap ((k : Int) - 1) = ((k - 1 : Nat) : Int) := by
        rw [IntWalk.i64_in _ (by omega)]
        omega
      have b4 : (0 : Int) ≤ ((k - 1 : Nat) : Int) := by omega
      have b5 : ((k - 1 : Nat) : Int) < (n : Int) := by omega
      have b6 : decide (Lib.compareBytes d2.data.toList d1.data.toList < 0) = false := decide_eq_false (by omega)
      clear hs
      go_wp2
      go_loopw [9] (fun j wr => ∃ m2 : Nat, j = .int .i64 k ∧ wr = w.drewN m2) (fun _ _ => 0)
      case atStart => exact ⟨m, rfl, rfl⟩
      case round =>
        obtain ⟨m2, rfl, hwr⟩ := hrel
        obtain ⟨c1, c2, e1, e2⟩ := HX.out m2
        rw [← hwr] at c1 c2 e1 e2
        have HW := Lib.hid hwr
        have HCMP := Lib.hid (fun (x : Nat) => cmp_any g2 g1 d2 d1 (wr.drewN x) e2 e1)
        clear hwr
        go_wp2
        go_quiet (first | (go_at_call 63; refine Calls.quiet_of (HCMP.out _)))
        go_wp2
        go_roundw
        case rel => exact ⟨k + 1, m2 + nq, by omega, by go_num, by rw [HW.out, HADD.out]⟩
        case measure => simp [intOf]; omega
    · go_wp2
      refine bodyPost_end (results_none rfl _ _ _) rfl ?_
      exact ⟨rfl, m, rfl⟩

set_option maxHeartbeats 4000000 in
set_option maxRecDepth 100000 in
theorem pdq_any (B g n c : Nat) (A : Option Addr) (lim : Int) (w : World) (hn : n ≤ 12) (hA : 1 < n → A = some ⟨g, 0, none⟩) (hs : Sorted w B g n) :
    Calls Tryz.prog 84 #[.slice A n c, .int .i64 0, .int .i64 (n : Int), .int .i64 lim, (.func (.func 63) #[] #[])] w fun e w' => e = .returned (.tuple #[]) ∧ ∃ k, w' = w.drewN k := by
  have C := insertion_any B g n c A w hn hA hs
  have h12 : decide ((n : Int) ≤ 12) = true := decide_eq_true (by omega)
  have h12' : n ≤ 12 := hn
  have hw1 : IntKind.i64.wrap ((n : Int) - 0) = (n : Int) := by rw [IntWalk.i64_in _ (by omega)]; omega
  have hw2 : IntKind.i64.wrap (n : Int) = (n : Int) := by rw [IntWalk.i64_in _ (by omega)]
  clear hs hA
  go_enter Tryz.func84, Tryz.ntmps84
  go_wp2_with fail
  go_loopw [1, 2, 12] (fun a b _ wr => a = .int .i64 0 ∧ b = .int .i64 (n : Int) ∧ wr = w) (fun _ _ _ _ => 0)
  case atStart => exact ⟨rfl, rfl, rfl⟩
  case round =>
    obtain ⟨rfl, rfl, rfl⟩ := hrel
    go_wp2_with fail
    refine C.mono ?_
    rintro e w1 ⟨rfl, k, rfl⟩
    go_wp2_with fail
    refine bodyPost_ret (results_none rfl _ _ _) rfl ?_
    exact ⟨rfl, k, rfl⟩

set_option maxHeartbeats 4000000 in
theorem sort_any (B g n c : Nat) (A : Option Addr) (w : World) (hn : n ≤ 12) (hA : 1 < n → A = some ⟨g, 0, none⟩) (hs : Sorted w B g n) :
    Calls Tryz.prog 62 #[.slice A n c, (.func (.func 63) #[] #[])] w fun e w' => e = .returned (.tuple #[]) ∧ ∃ k, w' = w.drewN k := by
  have C0 := Tryz.bits_Len (n : Int) w (by omega) (by omega)
  have C := pdq_any B g n c A (Lib.bitLen (n : Int).toNat) w hn hA hs
  clear hs hA
  go_enter Tryz.func62, Tryz.ntmps62
  go_wp2_with fail
  refine C0.mono ?_
  rintro e w1 ⟨rfl, rfl⟩
  go_wp2_with fail
  refine C.mono ?_
  rintro e w1 ⟨rfl, k, rfl⟩
  go_wp2_with fail
  refine bodyPost_end (results_none rfl _ _ _) rfl ?_
  exact ⟨rfl, k, rfl⟩
end Go.Proofs.YtanfimeajalffaaGreatDoor
