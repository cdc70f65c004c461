/-
  Where the lists of a file begin: importsOffset, embedsOffset, directivesOffset. Condition: what stands there (FileIs).
-/
import Derived.Test.YtanfimeajalffaaDoorRd
namespace Go.Proofs.YtanfimeajalffaaDoor
open Go.RowKit

theorem ret_int {k : IntKind} {a b : Int} (h : a = b) : Ending.returned (.int k a) = .returned (.int k b) := by rw [h]

set_option maxHeartbeats 400000 in
theorem sf_imp (gs gd p : Nat) (f : FileD) (b t : List UInt8) (w : World) (hs : SfAt w gs gd p) (hd : DecAt w gd b t) (h : FileIs b t p f) (hf : f.Ok) :
    Calls Tryd.prog 81 #[.pointer (some ⟨gs, 0, none⟩)] w fun e w' => e = .returned (.int .i64 ((p + 40 + 4 * f.cons.length : Nat) : Int)) ∧ ∃ k, w' = w.drewN k := by
  have h0 := h.1 9 _ rfl
  have hl := h0.lt
  have hm := hd.len.1
  have hc := hf.consL
  have hi := h.2.2.1.1.lt
  have C := Lib.hid (int_at gd (p + 4 * 9) f.cons.length b t w hd h0)
  rw [show ((p + 4 * 9 : Nat) : Int) = (p : Int) + 36 from by omega] at C
  have c0 : w.cell? ⟨gs, 0, none⟩ = some (.pointer (some ⟨gd, 0, none⟩)) := hs.cell 0
  have c1 : w.cell? ⟨gs, 1, none⟩ = some (.int .i64 (p : Int)) := hs.cell 1
  clear hs hd h h0 hf
  generalize f.cons.length = n at C hc hi ⊢
  go_enter Tryd.func81, Tryd.ntmps81
  go_wp2_with fail
  refine C.out.mono ?_
  rintro e w' ⟨rfl, k, rfl⟩
  go_wp2_with fail
  go_ret
  exact ⟨ret_int (by omega), k, rfl⟩

set_option maxHeartbeats 400000 in
theorem sf_emb (gs gd p : Nat) (f : FileD) (b t : List UInt8) (w : World) (hs : SfAt w gs gd p) (hd : DecAt w gd b t) (h : FileIs b t p f) (hf : f.Ok) :
    Calls Tryd.prog 82 #[.pointer (some ⟨gs, 0, none⟩)] w fun e w' => e = .returned (.int .i64 ((p + 44 + 4 * f.cons.length + 20 * f.imps.length : Nat) : Int)) ∧ ∃ k, w' = w.drewN k := by
  have h0 : ItIs b t (p + 40 + 4 * f.cons.length) (.n f.imps.length) := h.2.2.1.1
  have hl := h0.lt
  have hm := hd.len.1
  have hi := hf.impsL
  have hj := h.2.2.2.1.1.lt
  have C0 := Lib.hid (sf_imp gs gd p f b t w hs hd h hf)
  have C := Lib.hid (fun k => int_at gd (p + 40 + 4 * f.cons.length) f.imps.length b t (w.drewN k) hd h0)
  have c0 : w.cell? ⟨gs, 0, none⟩ = some (.pointer (some ⟨gd, 0, none⟩)) := hs.cell 0
  have hE : p + 44 + 4 * f.cons.length + 20 * f.imps.length = p + 40 + 4 * f.cons.length + 4 + f.imps.length * 20 := by omega
  rw [hE] at hj ⊢
  clear hs hd h h0 hf hE
  generalize f.imps.length = n at C hi hj ⊢
  generalize p + 40 + 4 * f.cons.length = q at C C0 hl hj ⊢
  go_enter Tryd.func82, Tryd.ntmps82
  go_wp2_with fail
  refine C0.out.mono ?_
  rintro e w1 ⟨rfl, k, rfl⟩
  go_wp2_with fail
  refine (C.out k).mono ?_
  rintro e w2 ⟨rfl, j, rfl⟩
  go_wp2_with fail
  go_ret
  exact ⟨ret_int (by omega), k + j, rfl⟩

set_option maxHeartbeats 400000 in
theorem sf_dir (gs gd p : Nat) (f : FileD) (b t : List UInt8) (w : World) (hs : SfAt w gs gd p) (hd : DecAt w gd b t) (h : FileIs b t p f) (hf : f.Ok) :
    Calls Tryd.prog 79 #[.pointer (some ⟨gs, 0, none⟩)] w fun e w' => e = .returned (.int .i64 ((p + 48 + 4 * f.cons.length + 20 * f.imps.length + 20 * f.embs.length : Nat) : Int)) ∧ ∃ k, w' = w.drewN k := by
  have h0 : ItIs b t (p + 44 + 4 * f.cons.length + 20 * f.imps.length) (.n f.embs.length) := h.2.2.2.1.1
  have hl := h0.lt
  have hm := hd.len.1
  have hi := hf.embsL
  have hj := h.2.2.2.2.1.lt
  have C0 := Lib.hid (sf_emb gs gd p f b t w hs hd h hf)
  have C := Lib.hid (fun k => int_at gd (p + 44 + 4 * f.cons.length + 20 * f.imps.length) f.embs.length b t (w.drewN k) hd h0)
  have c0 : w.cell? ⟨gs, 0, none⟩ = some (.pointer (some ⟨gd, 0, none⟩)) := hs.cell 0
  have hE : p + 48 + 4 * f.cons.length + 20 * f.imps.length + 20 * f.embs.length = p + 44 + 4 * f.cons.length + 20 * f.imps.length + 4 + f.embs.length * 20 := by omega
  rw [hE] at hj ⊢
  clear hs hd h h0 hf hE
  generalize f.embs.length = n at C hi hj ⊢
  generalize p + 44 + 4 * f.cons.length + 20 * f.imps.length = q at C C0 hl hj ⊢
  go_enter Tryd.func79, Tryd.ntmps79
  go_wp2_with fail
  refine C0.out.mono ?_
  rintro e w1 ⟨rfl, k, rfl⟩
  go_wp2_with fail
  refine (C.out k).mono ?_
  rintro e w2 ⟨rfl, j, rfl⟩
  go_wp2_with fail
  go_ret
  exact ⟨ret_int (by omega), k + j, rfl⟩
end Go.Proofs.YtanfimeajalffaaDoor
