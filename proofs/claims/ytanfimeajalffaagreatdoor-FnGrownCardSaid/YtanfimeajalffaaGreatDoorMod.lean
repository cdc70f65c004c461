/-
  A module's index in memory: pkgDir and pkgOff. Condition: what stands in the index (Idx).
-/
import Derived.Test.YtanfimeajalffaaGreatDoorGD
namespace Go.Proofs.YtanfimeajalffaaGreatDoor
open Go.RowKit

/-- An index in its two parts: what stands ahead of the table, and the table. -/
structure Idx (b t : List UInt8) (ps : List PkgD) : Prop where
  n : ps.length ≤ 10
  each : ∀ p ∈ ps, p.Ok
  dirs : ∀ k p, ps[k]? = some p → ItIs b t (20 + 8 * k) (.s p.dir)
  pkgs : ∀ k p, ps[k]? = some p → ∃ off hi, IntIs b (24 + 8 * k) off ∧ PkgIs b t off hi p

def ModAt (w : World) (gm gd n : Nat) : Prop := ∃ r, Blk w gm 71 #[.string r, .pointer (some ⟨gd, 0, none⟩), .int .i64 (n : Int)]
theorem ModAt.below {w w' : World} {gm gd n : Nat} (h : ModAt w gm gd n) (hb : Below w.heap.size w w') : ModAt w' gm gd n := by
  obtain ⟨r, h⟩ := h
  exact ⟨r, h.below hb h.lt⟩

set_option maxHeartbeats 400000 in
theorem pkgDir_any (gm gd : Nat) (ps : List PkgD) (b t : List UInt8) (w : World) (k : Nat) (hk : k < ps.length) (hm : ModAt w gm gd ps.length) (hd : DecAt w gd b t) (hi : Idx b t ps) :
    Calls Tryz.prog 71 #[.pointer (some ⟨gm, 0, none⟩), .int .i64 (k : Int)] w fun e w' => e = .returned (.string ps[k].dir) ∧ ∃ j, w' = w.drewN j := by
  obtain ⟨r, hb⟩ := hm
  have hn := hi.n
  have C := Lib.hid (string_at gd (20 + 8 * k) ps[k].dir b t w hd (hi.dirs k _ (List.getElem?_eq_getElem hk)))
  rw [show ((20 + 8 * k : Nat) : Int) = 20 + 8 * (k : Int) from by omega] at C
  have c1 : w.cell? ⟨gm, 1, none⟩ = some (.pointer (some ⟨gd, 0, none⟩)) := hb.cell 1
  have c2 : w.cell? ⟨gm, 2, none⟩ = some (.int .i64 (ps.length : Int)) := hb.cell 2
  have k0 : ¬ (k : Int) < 0 := by omega
  have k1 : (k : Int) < (ps.length : Int) := by omega
  generalize ps[k].dir = x at C ⊢
  clear hb hd hi
  go_enter Tryz.func71, Tryz.ntmps71
  go_wp2_with fail
  refine C.out.mono ?_
  rintro e w' ⟨rfl, j, rfl⟩
  go_wp2_with fail
  go_ret
  exact ⟨rfl, j, rfl⟩

set_option maxHeartbeats 400000 in
theorem pkgOff_any (gm gd off n : Nat) (b t : List UInt8) (w : World) (k : Nat) (hk : k < n) (hn : n ≤ 10) (hm : ModAt w gm gd n) (hd : DecAt w gd b t) (hi : IntIs b (24 + 8 * k) off) :
    Calls Tryz.prog 54 #[.pointer (some ⟨gm, 0, none⟩), .int .i64 (k : Int)] w fun e w' => e = .returned (.int .i64 (off : Int)) ∧ ∃ j, w' = w.drewN j := by
  obtain ⟨r, hb⟩ := hm
  have C := Lib.hid (int_at gd (24 + 8 * k) off b t w hd hi)
  rw [show ((24 + 8 * k : Nat) : Int) = 20 + 8 * (k : Int) + 4 from by omega] at C
  have c1 : w.cell? ⟨gm, 1, none⟩ = some (.pointer (some ⟨gd, 0, none⟩)) := hb.cell 1
  have c2 : w.cell? ⟨gm, 2, none⟩ = some (.int .i64 (n : Int)) := hb.cell 2
  have k0 : ¬ (k : Int) < 0 := by omega
  have k1 : (k : Int) < (n : Int) := by omega
  clear hb hd hi
  go_enter Tryz.func54, Tryz.ntmps54
  go_wp2_with fail
  refine C.out.mono ?_
  rintro e w' ⟨rfl, j, rfl⟩
  go_wp2_with fail
  go_ret
  exact ⟨rfl, j, rfl⟩
end Go.Proofs.YtanfimeajalffaaGreatDoor
