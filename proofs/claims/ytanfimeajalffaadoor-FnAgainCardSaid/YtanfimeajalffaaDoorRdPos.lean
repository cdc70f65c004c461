/-
  The reader's places: tokpos. Conditions: a reader of the decoder (RdIn), what stands there (ItIs).
-/
import Derived.Test.YtanfimeajalffaaDoorRd
import Derived.Test.YtanfimeajalffaaDoorGivenFile
namespace Go.Proofs.YtanfimeajalffaaDoor
open Go.RowKit

theorem grown_drop {w w' : World} {o : Obj} {row : Option Nat} (h : (w.alloc o).grownBy w' row) : w.grownBy w' row := (World.grownBy_alloc w o row).trans h
theorem grown_own {w w' : World} {row : Option Nat} {g : Nat} (h : w.grownBy w' row) (j : Nat) (u : Value) (hg : w.heap.size ≤ g) : w.grownBy (w'.setCell ⟨g, j, none⟩ u) row :=
  ⟨h.os, h.tape, h.output, Nat.le_trans h.size (by simp [World.setCell]), fun i hi hne => (Below.heap_setCell w' ⟨g, j, none⟩ u i (by show i ≠ g; omega)).trans (h.block i hi hne)⟩

def posCells (p : PosD) : List Value := [.string p.fn, .int .i64 p.o, .int .i64 p.l, .int .i64 p.c]

set_option maxHeartbeats 1000000 in
theorem rd_pos (w0 : World) (gr gd p : Nat) (d : PosD) (b t : List UInt8) (w : World) (hr : RdIn w0 w gr gd p b t) (hgw : gr < w.heap.size)
    (h0 : ItIs b t p (.s d.fn)) (h1 : ItIs b t (p + 4) (.n d.o.toNat)) (h2 : ItIs b t (p + 4 + 4) (.n d.l.toNat)) (h3 : ItIs b t (p + 4 + 4 + 4) (.n d.c.toNat)) (hd : d.ok) :
    Calls Tryd.prog 80 #[.pointer (some ⟨gr, 0, none⟩)] w fun e w' => e = .returned (.agg (posCells d).toArray) ∧ Rdd gr gd (p + 16) w w' := by
  obtain ⟨_, o0, _, l0, _, c0, _⟩ := hd
  have eo : ((d.o.toNat : Nat) : Int) = d.o := by omega
  have el : ((d.l.toNat : Nat) : Int) = d.l := by omega
  have ec : ((d.c.toNat : Nat) : Int) = d.c := by omega
  obtain ⟨W0, HW0⟩ : ∃ W0, W0 = w.alloc (.cells #[.string { data := #[] }, .int .i64 0, .int .i64 0, .int .i64 0] 78) := ⟨_, rfl⟩
  have r0 : RdIn w0 W0 gr gd p b t := by rw [HW0]; exact hr.alloc _
  have C0 := Lib.hid (rd_string w0 gr gd p d.fn b t W0 r0 h0)
  have C1 := Lib.hid (fun W hW => rd_int w0 gr gd (p + 4) d.o.toNat b t W (r0.step (w' := W) hW) h1)
  have C2 := Lib.hid (fun W hW => rd_int w0 gr gd (p + 4 + 4) d.l.toNat b t W (r0.step (w' := W) hW) h2)
  have C3 := Lib.hid (fun W hW => rd_int w0 gr gd (p + 4 + 4 + 4) d.c.toNat b t W (r0.step (w' := W) hW) h3)
  rw [eo] at C1
  rw [el] at C2
  rw [ec] at C3
  have hG : w.grownBy W0 (some gr) := by rw [HW0]; exact World.grownBy_alloc _ _ _
  have hB : Blk W0 w.heap.size 78 #[.string { data := #[] }, .int .i64 0, .int .i64 0, .int .i64 0] := by rw [HW0]; exact Blk.new _ _ _
  have HG := Lib.hid hG
  have HB := Lib.hid hB
  have HW := Lib.hid HW0
  clear hr h0 h1 h2 h3 r0 hG hB HW0 eo el ec
  obtain ⟨x, xo, xl, xc⟩ := d
  simp only [posCells] at C0 C1 C2 C3 ⊢
  go_enter Tryd.func80, Tryd.ntmps80
  go_wp2_with fail
  rw [show w.alloc (.cells #[.string { data := #[] }, .int .i64 0, .int .i64 0, .int .i64 0] 78) = W0 from HW.out.symm]
  refine C0.out.mono ?_
  rintro e w1 ⟨rfl, d1⟩
  have D1 := Lib.hid d1
  clear d1
  go_wp2_with fail
  refine (C1.out _ D1.out).mono ?_
  rintro e w2 ⟨rfl, d2⟩
  have D2 := Lib.hid (D1.out.trans d2)
  clear d2 D1
  go_wp2_with fail
  refine (C2.out _ D2.out).mono ?_
  rintro e w3 ⟨rfl, d3⟩
  have D3 := Lib.hid (D2.out.trans d3)
  clear d3 D2
  go_wp2_with fail
  refine (C3.out _ D3.out).mono ?_
  rintro e w4 ⟨rfl, d4⟩
  have d4' := D3.out.trans d4
  have hb4 : Blk w4 w.heap.size 78 #[.string { data := #[] }, .int .i64 0, .int .i64 0, .int .i64 0] := HB.out.grown d4'.2 (fun e => by injection e with e; omega)
  have D4 := Lib.hid d4'
  have q0 := hb4.cell 0
  have q1 := hb4.cell 1
  have q2 := hb4.cell 2
  have q3 := hb4.cell 3
  have f0 := hb4.frozen 0
  have f1 := hb4.frozen 1
  have f2 := hb4.frozen 2
  have f3 := hb4.frozen 3
  have HB4 := Lib.hid hb4
  clear d4 d4' D3 hb4
  go_wp2_with fail
  have hB5 := (((HB4.out.set_ 0 (.string x)).set_ 1 (.int .i64 xo)).set_ 2 (.int .i64 xl)).set_ 3 (.int .i64 xc)
  simp only [List.setIfInBounds_toArray, List.set_cons_zero, List.set_cons_succ] at hB5
  refine bodyPost_ret (results_cell 2 78 rfl w.heap.size _ rfl _ Tryd.underlying78 rfl (by kernel_rfl) hB5.range) rfl ?_
  refine ⟨rfl, ?_, grown_own (grown_own (grown_own (grown_own (HG.out.trans D4.out.2) _ _ (Nat.le_refl _)) _ _ (Nat.le_refl _)) _ _ (Nat.le_refl _)) _ _ (Nat.le_refl _)⟩
  exact (((Blk.far D4.out.1 (by show gr ≠ w.heap.size; omega) _).far (by show gr ≠ w.heap.size; omega) _).far (by show gr ≠ w.heap.size; omega) _).far (by show gr ≠ w.heap.size; omega) _
end Go.Proofs.YtanfimeajalffaaDoor
