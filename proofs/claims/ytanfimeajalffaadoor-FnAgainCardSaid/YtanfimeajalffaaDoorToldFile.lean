/-
  The contract of toldFile: a file as an index tells it. Condition: its lists lie ahead, of at most 1000 elements.
-/
import Derived.Test.YtanfimeajalffaaDoorTold
import Derived.Test.YtanfimeajalffaaDoorGivenFile
namespace Go.Proofs.YtanfimeajalffaaDoor
open Go.RowKit
attribute [local go_sem ↓] Go.wp_at_zero Go.wp_at_succ

set_option maxHeartbeats 1000000 in
theorem tf_end (base g : Nat) (f : FileD) (zs : Array Value) (hz : zs.size = 13) (w wA wI wE wD : World) (AA AI AE AD : Option Addr) (cA cI cE cD : Nat) (hbk : Blk wD g 41 zs) (hbkA : Blk wA g 41 zs) (hbg : base ≤ g)
    (hownA : wA.ownsRow base 9 1 (.slice AA f.cons.length cA) f.cons.length (f.cons.map Value.string))
    (hownI : wI.ownsRow wA.heap.size 97 5 (.slice AI f.imps.length cI) f.imps.length (f.imps.flatMap dirCells)) (hbI : Below wA.heap.size wA wI)
    (hownE : wE.ownsRow wI.heap.size 97 5 (.slice AE f.embs.length cE) f.embs.length (f.embs.flatMap dirCells)) (hbE : Below wI.heap.size wI wE)
    (hownD : wD.ownsRow wE.heap.size 97 5 (.slice AD f.dirs.length cD) f.dirs.length (f.dirs.flatMap dirCells)) (hbD : Below wE.heap.size wE wD) (hbelD : Below base w wD) :
    FileT (((((((((((((wD.setCell ⟨g, 0, none⟩ (.string f.err)).setCell ⟨g, 1, none⟩ (.string f.perr)).setCell ⟨g, 2, none⟩ (.string f.name)).setCell ⟨g, 3, none⟩ (.string f.syn)).setCell ⟨g, 4, none⟩ (.string f.pkg)).setCell ⟨g, 5, none⟩ (.bool f.ign)).setCell ⟨g, 6, none⟩ (.bool f.bin)).setCell ⟨g, 7, none⟩ (.string f.cgo)).setCell ⟨g, 8, none⟩ (.string f.con)).setCell ⟨g, 9, none⟩ (.slice AA f.cons.length cA)).setCell ⟨g, 10, none⟩ (.slice AI f.imps.length cI)).setCell ⟨g, 11, none⟩ (.slice AE f.embs.length cE)).setCell ⟨g, 12, none⟩ (.slice AD f.dirs.length cD)) (((((((((((((wD.setCell ⟨g, 0, none⟩ (.string f.err)).setCell ⟨g, 1, none⟩ (.string f.perr)).setCell ⟨g, 2, none⟩ (.string f.name)).setCell ⟨g, 3, none⟩ (.string f.syn)).setCell ⟨g, 4, none⟩ (.string f.pkg)).setCell ⟨g, 5, none⟩ (.bool f.ign)).setCell ⟨g, 6, none⟩ (.bool f.bin)).setCell ⟨g, 7, none⟩ (.string f.cgo)).setCell ⟨g, 8, none⟩ (.string f.con)).setCell ⟨g, 9, none⟩ (.slice AA f.cons.length cA)).setCell ⟨g, 10, none⟩ (.slice AI f.imps.length cI)).setCell ⟨g, 11, none⟩ (.slice AE f.embs.length cE)).setCell ⟨g, 12, none⟩ (.slice AD f.dirs.length cD)).heap.size 97 (fileCells f (.slice AA f.cons.length cA) (.slice AI f.imps.length cI) (.slice AE f.embs.length cE) (.slice AD f.dirs.length cD)) f ∧ Below base w (((((((((((((wD.setCell ⟨g, 0, none⟩ (.string f.err)).setCell ⟨g, 1, none⟩ (.string f.perr)).setCell ⟨g, 2, none⟩ (.string f.name)).setCell ⟨g, 3, none⟩ (.string f.syn)).setCell ⟨g, 4, none⟩ (.string f.pkg)).setCell ⟨g, 5, none⟩ (.bool f.ign)).setCell ⟨g, 6, none⟩ (.bool f.bin)).setCell ⟨g, 7, none⟩ (.string f.cgo)).setCell ⟨g, 8, none⟩ (.string f.con)).setCell ⟨g, 9, none⟩ (.slice AA f.cons.length cA)).setCell ⟨g, 10, none⟩ (.slice AI f.imps.length cI)).setCell ⟨g, 11, none⟩ (.slice AE f.embs.length cE)).setCell ⟨g, 12, none⟩ (.slice AD f.dirs.length cD)) ∧
      Blk (((((((((((((wD.setCell ⟨g, 0, none⟩ (.string f.err)).setCell ⟨g, 1, none⟩ (.string f.perr)).setCell ⟨g, 2, none⟩ (.string f.name)).setCell ⟨g, 3, none⟩ (.string f.syn)).setCell ⟨g, 4, none⟩ (.string f.pkg)).setCell ⟨g, 5, none⟩ (.bool f.ign)).setCell ⟨g, 6, none⟩ (.bool f.bin)).setCell ⟨g, 7, none⟩ (.string f.cgo)).setCell ⟨g, 8, none⟩ (.string f.con)).setCell ⟨g, 9, none⟩ (.slice AA f.cons.length cA)).setCell ⟨g, 10, none⟩ (.slice AI f.imps.length cI)).setCell ⟨g, 11, none⟩ (.slice AE f.embs.length cE)).setCell ⟨g, 12, none⟩ (.slice AD f.dirs.length cD)) g 41 (fileCells f (.slice AA f.cons.length cA) (.slice AI f.imps.length cI) (.slice AE f.embs.length cE) (.slice AD f.dirs.length cD)).toArray := by
  have hG : wD.grownBy (((((((((((((wD.setCell ⟨g, 0, none⟩ (.string f.err)).setCell ⟨g, 1, none⟩ (.string f.perr)).setCell ⟨g, 2, none⟩ (.string f.name)).setCell ⟨g, 3, none⟩ (.string f.syn)).setCell ⟨g, 4, none⟩ (.string f.pkg)).setCell ⟨g, 5, none⟩ (.bool f.ign)).setCell ⟨g, 6, none⟩ (.bool f.bin)).setCell ⟨g, 7, none⟩ (.string f.cgo)).setCell ⟨g, 8, none⟩ (.string f.con)).setCell ⟨g, 9, none⟩ (.slice AA f.cons.length cA)).setCell ⟨g, 10, none⟩ (.slice AI f.imps.length cI)).setCell ⟨g, 11, none⟩ (.slice AE f.embs.length cE)).setCell ⟨g, 12, none⟩ (.slice AD f.dirs.length cD)) (some g) := (grown_set (grown_set (grown_set (grown_set (grown_set (grown_set (grown_set (grown_set (grown_set (grown_set (grown_set (grown_set (grown_set (World.grownBy.refl wD _) _ _) _ _) _ _) _ _) _ _) _ _) _ _) _ _) _ _) _ _) _ _) _ _) _ _)
  have hgl := hbk.lt
  have hgA := hbkA.lt
  have hszI := hbI.size
  have hszE := hbE.size
  have hszD := hbD.size
  have hzs : ∃ a b c d e f g h i j k l m, zs = #[a, b, c, d, e, f, g, h, i, j, k, l, m] := by
    obtain ⟨l⟩ := zs
    match l, hz with
    | [a, b, c, d, e, f, g, h, i, j, k, l, m], _ => exact ⟨a, b, c, d, e, f, g, h, i, j, k, l, m, rfl⟩
  obtain ⟨_, _, _, _, _, _, _, _, _, _, _, _, _, rfl⟩ := hzs
  have hB := (((((((((((((hbk.set_ 0 (.string f.err)).set_ 1 (.string f.perr)).set_ 2 (.string f.name)).set_ 3 (.string f.syn)).set_ 4 (.string f.pkg)).set_ 5 (.bool f.ign)).set_ 6 (.bool f.bin)).set_ 7 (.string f.cgo)).set_ 8 (.string f.con)).set_ 9 (.slice AA f.cons.length cA)).set_ 10 (.slice AI f.imps.length cI)).set_ 11 (.slice AE f.embs.length cE)).set_ 12 (.slice AD f.dirs.length cD))
  simp only [List.setIfInBounds_toArray, List.set_cons_zero, List.set_cons_succ] at hB
  generalize (((((((((((((wD.setCell ⟨g, 0, none⟩ (.string f.err)).setCell ⟨g, 1, none⟩ (.string f.perr)).setCell ⟨g, 2, none⟩ (.string f.name)).setCell ⟨g, 3, none⟩ (.string f.syn)).setCell ⟨g, 4, none⟩ (.string f.pkg)).setCell ⟨g, 5, none⟩ (.bool f.ign)).setCell ⟨g, 6, none⟩ (.bool f.bin)).setCell ⟨g, 7, none⟩ (.string f.cgo)).setCell ⟨g, 8, none⟩ (.string f.con)).setCell ⟨g, 9, none⟩ (.slice AA f.cons.length cA)).setCell ⟨g, 10, none⟩ (.slice AI f.imps.length cI)).setCell ⟨g, 11, none⟩ (.slice AE f.embs.length cE)).setCell ⟨g, 12, none⟩ (.slice AD f.dirs.length cD)) = WF at hG hB ⊢
  have hneA : Value.ownBlock (.slice AA f.cons.length cA) ≠ some g := own_blk_ne hownA hbkA (by decide)
  have hneI : Value.ownBlock (.slice AI f.imps.length cI) ≠ some g := fun e => by have := (hownI.lt _ e).1; omega
  have hneE : Value.ownBlock (.slice AE f.embs.length cE) ≠ some g := fun e => by have := (hownE.lt _ e).1; omega
  have hneD : Value.ownBlock (.slice AD f.dirs.length cD) ≠ some g := fun e => by have := (hownD.lt _ e).1; omega
  have bID := (hbI.trans (hbE.mono hszI)).trans (hbD.mono (Nat.le_trans hszI hszE))
  have bED := hbE.trans (hbD.mono hszE)
  have hoA := TR.of_own ((own_below hownA bID).kept hG (.inr hneA))
  have hoI := TR.of_own ((own_below hownI bED).kept hG (.inr hneI))
  have hoE := TR.of_own ((own_below hownE hbD).kept hG (.inr hneE))
  have hoD := TR.of_own (hownD.kept hG (.inr hneD))
  exact ⟨⟨_, _, _, _, rfl, ⟨AA, cA, rfl, hoA⟩, ⟨AI, cI, rfl, hoI⟩, ⟨AE, cE, rfl, hoE⟩, ⟨AD, cD, rfl, hoD⟩⟩, hbelD.grown hG (by omega) (fun k hk => by injection hk with hk; omega), hB⟩

set_option maxHeartbeats 8000000 in
set_option maxRecDepth 100000 in
theorem toldFile_any (B : Nat) (f : FileD) (cs : List Value) (w : World) (hB : B ≤ w.heap.size) (hl0 : f.cons.length ≤ 1000) (hl1 : f.imps.length ≤ 1000) (hl2 : f.embs.length ≤ 1000) (hl3 : f.dirs.length ≤ 1000) (hr : FileR w B cs f) :
    Calls Tryd.prog 31 #[.agg cs.toArray] w fun e w' => ∃ cs', e = .returned (.agg cs'.toArray) ∧ FileT w' w'.heap.size 97 cs' f ∧ Below w.heap.size w w' := by
  obtain ⟨i0, hi0, hz0, hz1, hz2⟩ := info_parts' text_info
  obtain ⟨vc, vi, ve, vd, rfl, ⟨Ac, cc, rfl, hvc⟩, ⟨Ai, ci, rfl, hvi⟩, ⟨Ae, ce, rfl, hve⟩, ⟨Ad, cd, rfl, hvd⟩⟩ := hr
  have GI := Lib.hid (fun (W : World) (hW : Below w.heap.size w W) => told_any B _ f.imps W (Nat.le_trans hB hW.size) hl1 ⟨Ai, ci, rfl, hvi.below (hW.mono hB)⟩)
  have GE' := Lib.hid (fun (W : World) (hW : Below w.heap.size w W) => told_any B _ f.embs W (Nat.le_trans hB hW.size) hl2 ⟨Ae, ce, rfl, hve.below (hW.mono hB)⟩)
  have GD := Lib.hid (fun (W : World) (hW : Below w.heap.size w W) => told_any B _ f.dirs W (Nat.le_trans hB hW.size) hl3 ⟨Ad, cd, rfl, hvd.below (hW.mono hB)⟩)
  have HVC := Lib.hid (fun (W : World) (hW : Below w.heap.size w W) => hvc.below (hW.mono hB))
  clear hvc hvi hve hvd
  obtain ⟨W0, HW0⟩ : ∃ W0, W0 = (w.alloc (.cells (fileCells f (.slice Ac f.cons.length cc) (.slice Ai f.imps.length ci) (.slice Ae f.embs.length ce) (.slice Ad f.dirs.length cd)).toArray 53)).alloc (.cells #[.string { data := #[] }, .string { data := #[] }, .string { data := #[] }, .string { data := #[] }, .string { data := #[] }, .bool false, .bool false, .string { data := #[] }, .string { data := #[] }, .slice none 0 0, .slice none 0 0, .slice none 0 0, .slice none 0 0] 41) := ⟨_, rfl⟩
  have hblk1 := (Blk.new w 53 (fileCells f (.slice Ac f.cons.length cc) (.slice Ai f.imps.length ci) (.slice Ae f.embs.length ce) (.slice Ad f.dirs.length cd)).toArray).alloc (.cells #[.string { data := #[] }, .string { data := #[] }, .string { data := #[] }, .string { data := #[] }, .string { data := #[] }, .bool false, .bool false, .string { data := #[] }, .string { data := #[] }, .slice none 0 0, .slice none 0 0, .slice none 0 0, .slice none 0 0] 41)
  have hblk2 := Blk.new (w.alloc (.cells (fileCells f (.slice Ac f.cons.length cc) (.slice Ai f.imps.length ci) (.slice Ae f.embs.length ce) (.slice Ad f.dirs.length cd)).toArray 53)) 41 #[.string { data := #[] }, .string { data := #[] }, .string { data := #[] }, .string { data := #[] }, .string { data := #[] }, .bool false, .bool false, .string { data := #[] }, .string { data := #[] }, .slice none 0 0, .slice none 0 0, .slice none 0 0, .slice none 0 0]
  rw [World.size_alloc] at hblk2
  rw [← HW0] at hblk1 hblk2
  have hsz0 : W0.heap.size = w.heap.size + 2 := by rw [HW0]; simp
  have hbel0 : Below w.heap.size w W0 := by rw [HW0]; exact ((Below.refl _ _).alloc (Nat.le_refl _) _).alloc (by simp) _
  have HS0 := Lib.hid (show ∀ j, W0.cell? ⟨w.heap.size, j, none⟩ = (#[.string f.err, .string f.perr, .string f.name, .string f.syn, .string f.pkg, .bool f.ign, .bool f.bin, .string f.cgo, .string f.con, .slice Ac f.cons.length cc, .slice Ai f.imps.length ci, .slice Ae f.embs.length ce, .slice Ad f.dirs.length cd] : Array Value)[j]? from hblk1.cell)
  have HS1 : Hid (∀ j, W0.drew.cell? ⟨w.heap.size, j, none⟩ = (#[.string f.err, .string f.perr, .string f.name, .string f.syn, .string f.pkg, .bool f.ign, .bool f.bin, .string f.cgo, .string f.con, .slice Ac f.cons.length cc, .slice Ai f.imps.length ci, .slice Ae f.embs.length ce, .slice Ad f.dirs.length cd] : Array Value)[j]?) := Lib.hid HS0.out
  have HW := Lib.hid HW0
  have HB2 := Lib.hid hblk2
  clear HW0 hblk1 hblk2
  go_enter Tryd.func31, Tryd.ntmps31
  go_wp2_with fail
  rw [show (w.alloc (.cells (fileCells f (.slice Ac f.cons.length cc) (.slice Ai f.imps.length ci) (.slice Ae f.embs.length ce) (.slice Ad f.dirs.length cd)).toArray 53)).alloc (.cells #[.string { data := #[] }, .string { data := #[] }, .string { data := #[] }, .string { data := #[] }, .string { data := #[] }, .bool false, .bool false, .string { data := #[] }, .string { data := #[] }, .slice none 0 0, .slice none 0 0, .slice none 0 0, .slice none 0 0] 41) = W0 from HW.out.symm]
  go_region_held3 (fun W => ∀ j, W.cell? ⟨w.heap.size, j, none⟩ = (#[.string f.err, .string f.perr, .string f.name, .string f.syn, .string f.pkg, .bool f.ign, .bool f.bin, .string f.cgo, .string f.con, .slice Ac f.cons.length cc, .slice Ai f.imps.length ci, .slice Ae f.embs.length ce, .slice Ad f.dirs.length cd] : Array Value)[j]?) (first | with_reducible exact HS1.out | (with_reducible refine keepSet (by simp) ?_; (repeat (with_reducible refine keepSet (by simp) ?_)); with_reducible assumption) | with_reducible exact keepCells (hbD.block _ (by omega)) (by assumption) | with_reducible exact keepCells (hbE.block _ (by omega)) (by assumption) | with_reducible exact keepCells (hbI.block _ (by omega)) (by assumption) | with_reducible exact keepCells (hgA.block _ (by simp; omega) (by simp [Value.ownBlock])) (by assumption) | with_reducible exact keepCells (((Below.refl W0.heap.size W0).drew.alloc (Nat.le_refl _) (.cells #[] 9)).block _ (by omega)) HS0.out)
    (first
      | (refine step_append_any _ (by rfl) (.tmp 21) (.tmp 23) _ (by rfl) w.heap.size 9 i0 _ 1 16 Tryd.underlying24 hi0 hz0 hz1 hz2 (by rfl) (by decide) (.slice (some ⟨w.heap.size + 2, 0, none⟩) 0 0) 0 [] (by rfl) (own_void _ _ _ _ hsz0 (by omega)) _ Ac f.cons.length cc (f.cons.map Value.string) (by rfl) (HVC.out _ (hbel0.drew.alloc (by simp; omega) _)) (texts_one _) (by unfold maxLen; omega) (by omega) (by simp; omega) ?_; intro vA wA hownA hgA hatA; simp only [Nat.zero_add, List.nil_append] at hownA; have hbelA := (hbel0.drew.alloc (by simp; omega) (.cells #[] 9)).grown hgA (by simp; omega) (by intro k hk; simp [Value.ownBlock] at hk; omega); have hszA : w.heap.size + 3 ≤ wA.heap.size := (by have := hgA.size; simp at this; omega); have hbkA := (HB2.out.drew.alloc (.cells #[] 9)).grown hgA (by simp [Value.ownBlock]); obtain ⟨AA, cA, rfl⟩ := own_form' hownA)
      | (go_at_call 65; refine (GD.out _ hbelE).mono ?_; rintro e wD ⟨AD, cD, rfl, hownD, hbD⟩; have hbelD := hbelE.trans (hbD.mono hbelE.size); have hszD := hbD.size; have hbkD := hbkE.below hbD hbkE.lt; have q0 := hbkD.cell 0; have r0 := hbkD.frozen 0; have q1 := hbkD.cell 1; have r1 := hbkD.frozen 1; have q2 := hbkD.cell 2; have r2 := hbkD.frozen 2; have q3 := hbkD.cell 3; have r3 := hbkD.frozen 3; have q4 := hbkD.cell 4; have r4 := hbkD.frozen 4; have q5 := hbkD.cell 5; have r5 := hbkD.frozen 5; have q6 := hbkD.cell 6; have r6 := hbkD.frozen 6; have q7 := hbkD.cell 7; have r7 := hbkD.frozen 7; have q8 := hbkD.cell 8; have r8 := hbkD.frozen 8; have q9 := hbkD.cell 9; have r9 := hbkD.frozen 9; have q10 := hbkD.cell 10; have r10 := hbkD.frozen 10; have q11 := hbkD.cell 11; have r11 := hbkD.frozen 11; have q12 := hbkD.cell 12; have r12 := hbkD.frozen 12)
      | (go_at_call 65; refine (GE'.out _ hbelI).mono ?_; rintro e wE ⟨AE, cE, rfl, hownE, hbE⟩; have hbelE := hbelI.trans (hbE.mono hbelI.size); have hszE := hbE.size; have hbkE := hbkI.below hbE hbkI.lt)
      | (go_at_call 65; refine (GI.out _ hbelA).mono ?_; rintro e wI ⟨AI, cI, rfl, hownI, hbI⟩; have hbelI := hbelA.trans (hbI.mono hbelA.size); have hszI := hbI.size; have hbkI := hbkA.below hbI hbkA.lt))
  have E := tf_end w.heap.size (w.heap.size + 1) f _ rfl w wA wI wE wD AA AI AE AD cA cI cE cD hbkD hbkA (by omega) hownA hownI hbI hownE hbE hownD hbD hbelD
  have HE := Lib.hid E
  clear E hownA hownI hownE hownD hbI hbE hbD hbkA hbkI hbkE hbkD hbelA hbelI hbelE hbelD
  go_wp2_with fail
  refine bodyPost_ret (results_cell 2 41 rfl (w.heap.size + 1) _ rfl _ Tryd.underlying41 rfl (by kernel_rfl) HE.out.2.2.range) rfl ?_
  exact ⟨_, rfl, HE.out.1, HE.out.2.1⟩
end Go.Proofs.YtanfimeajalffaaDoor
