/-
  The reader: numbers, texts and places, one behind the other. Conditions: a reader of the decoder (RdIn), what stands there (ItIs).
-/
import Derived.Test.YtanfimeajalffaaDoorSf
import Derived.Test.YtanfimeajalffaaDoorRegion
import Derived.Deep.DrawnRows
namespace Go.Proofs.YtanfimeajalffaaDoor
open Go.RowKit
attribute [local go_sem ↓] Go.wp_at_zero Go.wp_at_succ

def RdAt (w : World) (gr gd p : Nat) : Prop := Blk w gr 150 #[.pointer (some ⟨gd, 0, none⟩), .int .i64 (p : Int)]
/-- The reader has gone on to place q; nothing else that was there has changed. -/
def Rdd (gr gd q : Nat) (w w' : World) : Prop := RdAt w' gr gd q ∧ w.grownBy w' (some gr)
/-- A reader of its own, of a decoder that was there before. -/
structure RdIn (w0 w : World) (gr gd p : Nat) (b t : List UInt8) : Prop where
  dec : DecAt w0 gd b t
  bel : Below w0.heap.size w0 w
  own : w0.heap.size ≤ gr
  at_ : RdAt w gr gd p

theorem only_of_drew {a w : World} {row : Option Nat} (h : a.drew.grownBy w row) : a.grownBy w row := ⟨h.os, h.tape, h.output, h.size, h.block⟩
theorem Rdd.trans {gr gd p q : Nat} {a b c : World} (h : Rdd gr gd p a b) (k : Rdd gr gd q b c) : Rdd gr gd q a c := ⟨k.1, h.2.trans k.2⟩
theorem Rdd.below {B gr gd q : Nat} {a w w' : World} (h : Rdd gr gd q w w') (hb : Below B a w) (hB : B ≤ w.heap.size) (hg : B ≤ gr) : Below B a w' :=
  hb.grown h.2 hB fun k hk => by injection hk with hk; omega
theorem RdIn.step {w0 w w' : World} {gr gd p q : Nat} {b t : List UInt8} (h : RdIn w0 w gr gd p b t) (k : Rdd gr gd q w w') : RdIn w0 w' gr gd q b t :=
  ⟨h.dec, k.below h.bel h.bel.size h.own, h.own, k.1⟩
theorem RdIn.decw {w0 w : World} {gr gd p : Nat} {b t : List UInt8} (h : RdIn w0 w gr gd p b t) : DecAt w gd b t := h.dec.below h.bel
theorem RdIn.drewN {w0 w : World} {gr gd p : Nat} {b t : List UInt8} (h : RdIn w0 w gr gd p b t) (k : Nat) : RdIn w0 (w.drewN k) gr gd p b t :=
  ⟨h.dec, below_dn h.bel k, h.own, h.at_⟩
theorem RdIn.drew {w0 w : World} {gr gd p : Nat} {b t : List UInt8} (h : RdIn w0 w gr gd p b t) : RdIn w0 w.drew gr gd p b t :=
  ⟨h.dec, h.bel.drew, h.own, h.at_⟩
theorem RdIn.alloc {w0 w : World} {gr gd p : Nat} {b t : List UInt8} (h : RdIn w0 w gr gd p b t) (o : Obj) : RdIn w0 (w.alloc o) gr gd p b t :=
  ⟨h.dec, h.bel.alloc h.bel.size o, h.own, Blk.alloc h.at_ o⟩
theorem RdIn.place {w0 w : World} {gr gd p q : Nat} {b t : List UInt8} (h : RdIn w0 w gr gd p b t) (e : p = q) : RdIn w0 w gr gd q b t := e ▸ h
theorem Rdd.of {gr gd p q k : Nat} {w : World} (h : RdAt w gr gd p) : Rdd gr gd q w ((w.drewN k).setCell ⟨gr, 1, none⟩ (.int .i64 (q : Int))) := by
  have hg : w.grownBy (w.drewN k) (some gr) := ⟨rfl, rfl, rfl, Nat.le_refl _, fun _ _ _ => rfl⟩
  exact ⟨Blk.set_ (h : RdAt (w.drewN k) gr gd p) 1 (.int .i64 (q : Int)), hg.trans (grownBy_setCell (w.drewN k) ⟨gr, 1, none⟩ _)⟩

set_option maxHeartbeats 400000 in
theorem readAt_any (gd p : Nat) (w : World) : Calls Tryd.prog 61 #[.pointer (some ⟨gd, 0, none⟩), .int .i64 (p : Int)] w fun e w' => e = .returned (.pointer (some ⟨w.heap.size, 0, none⟩)) ∧ w' = w.alloc (.cells #[.pointer (some ⟨gd, 0, none⟩), .int .i64 (p : Int)] 150) := by
  go_enter Tryd.func61, Tryd.ntmps61
  go_wp2_with fail
  go_ret
  exact ⟨rfl, rfl⟩

set_option maxHeartbeats 400000 in
theorem rd_int (w0 : World) (gr gd p n : Nat) (b t : List UInt8) (w : World) (hr : RdIn w0 w gr gd p b t) (h : ItIs b t p (.n n)) :
    Calls Tryd.prog 64 #[.pointer (some ⟨gr, 0, none⟩)] w fun e w' => e = .returned (.int .i64 (n : Int)) ∧ Rdd gr gd (p + 4) w w' := by
  have hl := h.lt
  have hm := hr.dec.len.1
  have C := Lib.hid (fun k => int_at gd p n b t (w.drewN k) hr.decw h)
  have c0 : w.cell? ⟨gr, 0, none⟩ = some (.pointer (some ⟨gd, 0, none⟩)) := hr.at_.cell 0
  have c1 : w.cell? ⟨gr, 1, none⟩ = some (.int .i64 (p : Int)) := hr.at_.cell 1
  have f1 := hr.at_.frozen 1
  have HA := Lib.hid (fun k => Rdd.of (k := k) (q := p + 4) hr.at_)
  rw [show ((p + 4 : Nat) : Int) = (p : Int) + 4 from by omega] at HA
  clear hr h
  go_enter Tryd.func64, Tryd.ntmps64
  go_wp2_with fail
  go_quiet ((go_at_call 34; exact Calls.quiet_of (C.out _)))
  go_wp2_with fail
  go_ret
  exact ⟨rfl, HA.out nq⟩

set_option maxHeartbeats 1000000 in
theorem rd_string (w0 : World) (gr gd p : Nat) (s : ByteArray) (b t : List UInt8) (w : World) (hr : RdIn w0 w gr gd p b t) (h : ItIs b t p (.s s)) :
    Calls Tryd.prog 63 #[.pointer (some ⟨gr, 0, none⟩)] w fun e w' => e = .returned (.string s) ∧ Rdd gr gd (p + 4) w w' := by
  obtain ⟨off, h1, h2⟩ := h
  have hgr := hr.own
  have C := Lib.hid (rd_int w0 gr gd p off b t w.drew hr.drew h1)
  have T := Lib.hid (fun (W : World) (hW : RdIn w0 W gr gd (p + 4) b t) => text_at gd off s b t W hW.decw h2)
  have ST := Lib.hid (fun (W : World) (hW : Rdd gr gd (p + 4) w.drew W) => hr.drew.step hW)
  have hHeld : w.drew.cell? ⟨gr, 0, none⟩ = some (.pointer (some ⟨gd, 0, none⟩)) := hr.at_.cell 0
  clear hr h1 h2
  go_enter Tryd.func63, Tryd.ntmps63
  go_wp2_with fail
  refine wp_region_m 99 (fun W => W.cell? ⟨gr, 0, none⟩ = some (.pointer (some ⟨gd, 0, none⟩))) (by kernel_rfl) ?_
  refine wpAnyM_take (i := 0) (oi := ⟨some 3, _, _, _, _, _⟩) (v := (.pointer (some ⟨gr, 0, none⟩))) rfl (by kernel_rfl) (by kernel_rfl) (by kernel_rfl) (by kernel_rfl) (by decide) (fun _ _ _ h => h) (by assumption) (Or.inl ⟨by rfl, ?_⟩) ?_
  · intro W hSW
    (try dsimp only at hSW)
    go_simp
  (try go_frame)
  refine wpAnyM_take (i := 1) (oi := ⟨some 4, _, _, _, _, _⟩) (v := (.pointer (some ⟨gr, 0, none⟩))) rfl (by kernel_rfl) (by kernel_rfl) (by kernel_rfl) (by kernel_rfl) (by decide) (fun _ _ _ h => h) (by assumption) (Or.inl ⟨by rfl, ?_⟩) ?_
  · intro W hSW
    (try dsimp only at hSW)
    go_simp
  (try go_frame)
  refine wpAnyM_take (i := 2) (oi := ⟨some 5, _, _, _, _, _⟩) (v := (.pointer (some ⟨gr, 0, none⟩))) rfl (by kernel_rfl) (by kernel_rfl) (by kernel_rfl) (by kernel_rfl) (by decide) (fun _ _ _ h => h) (by assumption) (Or.inl ⟨by rfl, ?_⟩) ?_
  · intro W hSW
    (try dsimp only at hSW)
    go_simp
  (try go_frame)
  refine wpAnyM_take (i := 3) (oi := ⟨some 6, _, _, _, _, _⟩) (v := (.pointer (some ⟨gd, 0, none⟩))) rfl (by kernel_rfl) (by kernel_rfl) (by kernel_rfl) (by kernel_rfl) (by decide) (fun _ _ _ h => h) (by assumption) (Or.inl ⟨by rfl, ?_⟩) ?_
  · intro W hSW
    (try dsimp only at hSW)
    go_simp
  (try go_frame)
  refine wpAnyM_take (i := 4) (oi := ⟨some 7, _, _, _, _, _⟩) (v := (.pointer (some ⟨gr, 0, none⟩))) rfl (by kernel_rfl) (by kernel_rfl) (by kernel_rfl) (by kernel_rfl) (by decide) (fun _ _ _ h => h) (by assumption) (Or.inl ⟨by rfl, ?_⟩) ?_
  · intro W hSW
    (try dsimp only at hSW)
    go_simp
  (try go_frame)
  refine wpAnyM_only (i := 5) (oi := ⟨some 8, _, _, _, _, _⟩) rfl (by kernel_rfl) (fun K hK => ?_)
  go_simp
  refine C.out.mono ?_
  rintro e w1 ⟨rfl, hd⟩
  have hHeld1 : w1.cell? ⟨gr, 0, none⟩ = some (.pointer (some ⟨gd, 0, none⟩)) := hd.1.cell 0
  have HD := Lib.hid hd
  clear hd
  go_wp2_with fail
  refine hK.out _ _ (.inr hHeld1) ?_
  clear hK K
  (try go_frame)
  refine wpAnyM_only (i := 6) (oi := ⟨some 9, _, _, _, _, _⟩) rfl (by kernel_rfl) (fun K hK => ?_)
  go_simp
  refine (T.out _ (ST.out _ HD.out)).mono ?_
  rintro e w2 ⟨rfl, rfl⟩
  go_wp2_with fail
  refine hK.out _ _ (.inr hHeld1) ?_
  clear hK K
  (try go_frame)
  refine wpAnyM_take (i := 7) (oi := ⟨some 2, _, _, _, _, _⟩) (v := (.string s)) rfl (by kernel_rfl) (by kernel_rfl) (by kernel_rfl) (by kernel_rfl) (by decide) (fun _ _ _ h => h) (by assumption) (Or.inl ⟨by rfl, ?_⟩) ?_
  · intro W hSW
    (try dsimp only at hSW)
    go_simp
  (try go_frame)
  refine wpAnyM_done (by kernel_rfl) (NoPanic.normal ?_)
  go_wp2_with fail
  go_ret
  exact ⟨rfl, HD.out.1, only_of_drew HD.out.2⟩
end Go.Proofs.YtanfimeajalffaaDoor
