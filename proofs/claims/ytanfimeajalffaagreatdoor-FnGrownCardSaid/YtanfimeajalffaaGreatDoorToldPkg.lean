/-
  The contract of toldPackage: a package as an index tells it. Condition: packages within the law's bounds.
-/
import Derived.Test.YtanfimeajalffaaGreatDoorGC
import Derived.Test.YtanfimeajalffaaGreatDoorEncode
namespace Go.Proofs.YtanfimeajalffaaGreatDoor
open Go.RowKit
attribute [local go_sem ↓] Go.wp_at_zero Go.wp_at_succ

theorem ifile_info : (Tryz.prog.info? 43).map (fun i => (i.zero, i.size, i.bytes)) = some (some (.agg #[.string ByteArray.empty, .string ByteArray.empty, .string ByteArray.empty, .string ByteArray.empty, .string ByteArray.empty, .bool false, .bool false, .string ByteArray.empty, .string ByteArray.empty, .slice none 0 0, .slice none 0 0, .slice none 0 0, .slice none 0 0]), 13, 216) := by kernel_rfl
theorem ipkg_info : (Tryz.prog.info? 32).map (fun i => (i.zero, i.size, i.bytes)) = some (some (.agg #[.string ByteArray.empty, .string ByteArray.empty, .slice none 0 0]), 3, 56) := by kernel_rfl

/-- toldFile, its result written out. -/
theorem toldFile_lit (B : Nat) (f : FileD) (cs : List Value) (w : World) (hB : B ≤ w.heap.size) (hf : f.Ok) (hr : FileR w B cs f) :
    Calls Tryz.prog 30 #[.agg cs.toArray] w fun e w' => ∃ Ac cc Ai ci Ae ce Ad cd, e = .returned (.agg #[.string f.err, .string f.perr, .string f.name, .string f.syn, .string f.pkg, .bool f.ign, .bool f.bin, .string f.cgo, .string f.con, .slice Ac f.cons.length cc, .slice Ai f.imps.length ci, .slice Ae f.embs.length ce, .slice Ad f.dirs.length cd]) ∧
      FileT w' w'.heap.size 101 (fileCells f (.slice Ac f.cons.length cc) (.slice Ai f.imps.length ci) (.slice Ae f.embs.length ce) (.slice Ad f.dirs.length cd)) f ∧ Below w.heap.size w w' := by
  have h1 := hf.consL
  have h2 := hf.impsL
  have h3 := hf.embsL
  have h4 := hf.dirsL
  refine (toldFile_any B f cs w hB (by omega) (by omega) (by omega) (by omega) hr).mono ?_
  rintro e w' ⟨cs', rfl, hT, hb⟩
  have hT2 := hT
  obtain ⟨vc, vi, ve, vd, rfl, ⟨A1, c1, rfl, _⟩, ⟨A2, c2, rfl, _⟩, ⟨A3, c3, rfl, _⟩, ⟨A4, c4, rfl, _⟩⟩ := hT2
  exact ⟨A1, c1, A2, c2, A3, c3, A4, c4, rfl, hT, hb⟩

set_option maxHeartbeats 8000000 in
set_option maxRecDepth 100000 in
theorem toldPackage_any (B : Nat) (cs : List Value) (p : PkgD) (w : World) (hB : B ≤ w.heap.size) (hok : p.Ok) (hp : PkgR w B cs p) :
    Calls Tryz.prog 19 #[.agg cs.toArray] w fun e w' => ∃ A c, e = .returned (.agg #[.string p.err, .string p.dir, .slice A p.files.length c]) ∧ PkgT w' w'.heap.size 43 101 [.string p.err, .string p.dir, .slice A p.files.length c] p ∧ Below w.heap.size w w' := by
  obtain ⟨i0, hi0, hz0, hz1, hz2⟩ := info_parts' ifile_info
  obtain ⟨vf, rfl, hfs⟩ := hp
  obtain ⟨Af, cf, rfl⟩ := hfs.form
  have HFS := Lib.hid hfs
  have HOK := Lib.hid hok
  have HFL := hok.filesL
  clear hfs hok
  obtain ⟨W1, HW1⟩ : ∃ W1, W1 = ((w.alloc (.cells #[.string p.err, .string p.dir, .slice Af p.files.length cf] 52)).alloc (.cells #[.string { data := #[] }, .string { data := #[] }, .slice none 0 0] 32)).alloc (.cells #[.string p.err, .string p.dir, .slice none 0 0] 32) := ⟨_, rfl⟩
  have hB1 : Blk W1 (w.heap.size + 2) 32 #[.string p.err, .string p.dir, .slice none 0 0] := by
    rw [HW1]
    have := Blk.new ((w.alloc (.cells #[.string p.err, .string p.dir, .slice Af p.files.length cf] 52)).alloc (.cells #[.string { data := #[] }, .string { data := #[] }, .slice none 0 0] 32)) 32 #[.string p.err, .string p.dir, .slice none 0 0]
    simpa using this
  have hB0 : Blk W1 (w.heap.size + 1) 32 #[.string { data := #[] }, .string { data := #[] }, .slice none 0 0] := by
    rw [HW1]
    have := (Blk.new (w.alloc (.cells #[.string p.err, .string p.dir, .slice Af p.files.length cf] 52)) 32 #[.string { data := #[] }, .string { data := #[] }, .slice none 0 0]).alloc (.cells #[.string p.err, .string p.dir, .slice none 0 0] 32)
    simpa using this
  have hW1 : Below w.heap.size w W1 := by rw [HW1]; exact (((Below.refl _ _).alloc (Nat.le_refl _) _).alloc (by simp) _).alloc (by simp; omega) _
  have HB1 := Lib.hid hB1
  have HB0 := Lib.hid hB0
  have HW := Lib.hid HW1
  clear hB1 hB0 HW1
  go_enter Tryz.func19, Tryz.ntmps19
  go_wp2_with fail
  rw [show ((w.alloc (.cells #[.string p.err, .string p.dir, .slice Af p.files.length cf] 52)).alloc (.cells #[.string { data := #[] }, .string { data := #[] }, .slice none 0 0] 32)).alloc (.cells #[.string p.err, .string p.dir, .slice none 0 0] 32) = W1 from HW.out.symm]
  clear HW
  go_loopw [14] (fun j wx => ∃ m : Nat, m ≤ p.files.length ∧ j = .int .i64 m ∧ Below w.heap.size w wx ∧ Blk wx (w.heap.size + 1) 32 #[.string { data := #[] }, .string { data := #[] }, .slice none 0 0] ∧ ∃ vx, Blk wx (w.heap.size + 2) 32 #[.string p.err, .string p.dir, vx] ∧ ListOwn wx w.heap.size 43 13 (FileT wx wx.heap.size 101) vx (p.files.take m)) (fun j _ => p.files.length - (intOf j).toNat)
  case atStart => exact ⟨0, Nat.zero_le _, rfl, hW1, HB0.out, _, HB1.out, ListOwn.nil rfl _⟩
  case round =>
    obtain ⟨m, hm, rfl, hFx, hbr, vx, hbx, hox⟩ := hrel
    clear hW1 HB1 HB0
    obtain ⟨wx, rfl⟩ : ∃ wx : World, wx = wr := ⟨_, rfl⟩
    have hszx := hFx.size
    by_cases hltm : m < p.files.length
    · obtain ⟨gf, of, cs, rfl, hgf, _, hR, hcell⟩ := (ListAt.files_below HFS.out (hFx.mono hB)).get (by omega) m hltm
      have hfok := HOK.out.files _ (List.getElem_mem hltm)
      have htm := Lib.hid (take_snoc' p.files m hltm)
      generalize p.files[m] = f at hR hfok htm
      have GC := Lib.hid (fun (W : World) (hW : Below wx.heap.size wx W) => toldFile_lit B f cs W (Nat.le_trans (Nat.le_trans hB hszx) hW.size) hfok (hR.below (hW.mono (Nat.le_trans hB hszx))))
      obtain ⟨vc, vi, ve, vd, rfl, ⟨A1, c1, rfl, _⟩, ⟨A2, c2, rfl, _⟩, ⟨A3, c3, rfl, _⟩, ⟨A4, c4, rfl, _⟩⟩ := hR
      have d0 : wx.cell? ⟨gf, of + m * 13, none⟩ = some (.string f.err) := hcell 0 _ rfl
      have d1 : wx.cell? ⟨gf, of + m * 13 + 1, none⟩ = some (.string f.perr) := hcell 1 _ rfl
      have d2 : wx.cell? ⟨gf, of + m * 13 + 2, none⟩ = some (.string f.name) := hcell 2 _ rfl
      have d3 : wx.cell? ⟨gf, of + m * 13 + 3, none⟩ = some (.string f.syn) := hcell 3 _ rfl
      have d4 : wx.cell? ⟨gf, of + m * 13 + 4, none⟩ = some (.string f.pkg) := hcell 4 _ rfl
      have d5 : wx.cell? ⟨gf, of + m * 13 + 5, none⟩ = some (.bool f.ign) := hcell 5 _ rfl
      have d6 : wx.cell? ⟨gf, of + m * 13 + 6, none⟩ = some (.bool f.bin) := hcell 6 _ rfl
      have d7 : wx.cell? ⟨gf, of + m * 13 + 7, none⟩ = some (.string f.cgo) := hcell 7 _ rfl
      have d8 : wx.cell? ⟨gf, of + m * 13 + 8, none⟩ = some (.string f.con) := hcell 8 _ rfl
      have d9 : wx.cell? ⟨gf, of + m * 13 + 9, none⟩ = some (.slice A1 f.cons.length c1) := hcell 9 _ rfl
      have d10 : wx.cell? ⟨gf, of + m * 13 + 10, none⟩ = some (.slice A2 f.imps.length c2) := hcell 10 _ rfl
      have d11 : wx.cell? ⟨gf, of + m * 13 + 11, none⟩ = some (.slice A3 f.embs.length c3) := hcell 11 _ rfl
      have d12 : wx.cell? ⟨gf, of + m * 13 + 12, none⟩ = some (.slice A4 f.dirs.length c4) := hcell 12 _ rfl
      obtain ⟨css, o1, o2, o3, o4⟩ := hox
      have htl : (p.files.take m).length = m := List.length_take_of_le (by omega)
      rw [htl] at o1 o2
      obtain ⟨Ax, cx, rfl⟩ := own_form' o1
      have hcx : wx.cell? ⟨w.heap.size + 2, 2, none⟩ = some (.slice Ax m cx) := hbx.cell 2
      have hS0 : Hid ((∀ j, ((wx.alloc (.cells #[.string f.err, .string f.perr, .string f.name, .string f.syn, .string f.pkg, .bool f.ign, .bool f.bin, .string f.cgo, .string f.con, .slice A1 f.cons.length c1, .slice A2 f.imps.length c2, .slice A3 f.embs.length c3, .slice A4 f.dirs.length c4] 56)).drew).cell? ⟨wx.heap.size, j, none⟩ = (#[.string f.err, .string f.perr, .string f.name, .string f.syn, .string f.pkg, .bool f.ign, .bool f.bin, .string f.cgo, .string f.con, .slice A1 f.cons.length c1, .slice A2 f.imps.length c2, .slice A3 f.embs.length c3, .slice A4 f.dirs.length c4] : Array Value)[j]?) ∧ ((wx.alloc (.cells #[.string f.err, .string f.perr, .string f.name, .string f.syn, .string f.pkg, .bool f.ign, .bool f.bin, .string f.cgo, .string f.con, .slice A1 f.cons.length c1, .slice A2 f.imps.length c2, .slice A3 f.embs.length c3, .slice A4 f.dirs.length c4] 56)).drew).cell? ⟨w.heap.size + 2, 2, none⟩ = some (.slice Ax m cx)) := Lib.hid ⟨(Blk.new wx 56 #[.string f.err, .string f.perr, .string f.name, .string f.syn, .string f.pkg, .bool f.ign, .bool f.bin, .string f.cgo, .string f.con, .slice A1 f.cons.length c1, .slice A2 f.imps.length c2, .slice A3 f.embs.length c3, .slice A4 f.dirs.length c4]).cell, (World.cell?_alloc_lt wx _ _ hbx.lt).trans hcx⟩
      have O1 := Lib.hid o1
      have O4 := Lib.hid o4
      have HBX := Lib.hid hbx
      have HBR := Lib.hid hbr
      clear hcell o1 o4 hbx hcx hbr
      go_wp2_with fail
      refine wp_region_m 7 (fun W => (∀ j, W.cell? ⟨wx.heap.size, j, none⟩ = (#[.string f.err, .string f.perr, .string f.name, .string f.syn, .string f.pkg, .bool f.ign, .bool f.bin, .string f.cgo, .string f.con, .slice A1 f.cons.length c1, .slice A2 f.imps.length c2, .slice A3 f.embs.length c3, .slice A4 f.dirs.length c4] : Array Value)[j]?) ∧ W.cell? ⟨w.heap.size + 2, 2, none⟩ = some (.slice Ax m cx)) (by kernel_rfl) ?_
      have hHeld := hS0.out
      refine wpAnyM_take (i := 0) (v := (.pointer (some ⟨w.heap.size + 2, 2, none⟩))) rfl (by kernel_rfl) (by kernel_rfl) (by kernel_rfl) (by kernel_rfl) (by decide) (fun _ _ _ h => h) (by assumption) (Or.inl ⟨by rfl, ?_⟩) ?_
      · intro W hSW
        (try dsimp only at hSW)
        go_simp
      (try go_frame)
      refine wpAnyM_take (i := 1) (v := (.slice Ax m cx)) rfl (by kernel_rfl) (by kernel_rfl) (by kernel_rfl) (by kernel_rfl) (by decide) (fun _ _ _ h => h) (by assumption) (Or.inl ⟨by rfl, ?_⟩) ?_
      · intro W hSW
        (try dsimp only at hSW)
        go_simp
      (try go_frame)
      refine wpAnyM_take (i := 2) (v := (.agg #[.string f.err, .string f.perr, .string f.name, .string f.syn, .string f.pkg, .bool f.ign, .bool f.bin, .string f.cgo, .string f.con, .slice A1 f.cons.length c1, .slice A2 f.imps.length c2, .slice A3 f.embs.length c3, .slice A4 f.dirs.length c4])) rfl (by kernel_rfl) (by kernel_rfl) (by kernel_rfl) (by kernel_rfl) (by decide) (fun _ _ _ h => h) (by assumption) (Or.inl ⟨by rfl, ?_⟩) ?_
      · intro W hSW
        (try dsimp only at hSW)
        go_simp
      (try go_frame)
      refine wpAnyM_only (i := 3) rfl (by kernel_rfl) (fun K hK => ?_)
      go_simp
      refine (GC.out _ (((Below.refl _ _).alloc (Nat.le_refl _) _).drew)).mono ?_
      rintro e wg ⟨Ac, cc, Ai, ci, Ae, ce, Ad, cd, rfl, hft, hbg⟩
      have hbg2 : Below (wx.heap.size + 1) ((wx.alloc (.cells #[.string f.err, .string f.perr, .string f.name, .string f.syn, .string f.pkg, .bool f.ign, .bool f.bin, .string f.cgo, .string f.con, .slice A1 f.cons.length c1, .slice A2 f.imps.length c2, .slice A3 f.embs.length c3, .slice A4 f.dirs.length c4] 56)).drew) wg := by
        have e : ((wx.alloc (.cells #[.string f.err, .string f.perr, .string f.name, .string f.syn, .string f.pkg, .bool f.ign, .bool f.bin, .string f.cgo, .string f.con, .slice A1 f.cons.length c1, .slice A2 f.imps.length c2, .slice A3 f.embs.length c3, .slice A4 f.dirs.length c4] 56)).drew).heap.size = wx.heap.size + 1 := by simp
        rw [e] at hbg
        exact hbg
      have hszg : wx.heap.size + 1 ≤ wg.heap.size := by have := hbg2.size; simpa using this
      have hbxg : Below wx.heap.size wx wg := (((Below.refl _ _).alloc (Nat.le_refl _) _).drew).trans (hbg2.mono (by omega))
      have hoW : (wg.alloc (.cells #[.string f.err, .string f.perr, .string f.name, .string f.syn, .string f.pkg, .bool f.ign, .bool f.bin, .string f.cgo, .string f.con, .slice Ac f.cons.length cc, .slice Ai f.imps.length ci, .slice Ae f.embs.length ce, .slice Ad f.dirs.length cd] 43)).ownsRow w.heap.size 43 13 (.slice Ax m cx) m css.flatten := (own_below O1.out hbxg).alloc _
      have hbW : Blk (wg.alloc (.cells #[.string f.err, .string f.perr, .string f.name, .string f.syn, .string f.pkg, .bool f.ign, .bool f.bin, .string f.cgo, .string f.con, .slice Ac f.cons.length cc, .slice Ai f.imps.length ci, .slice Ae f.embs.length ce, .slice Ad f.dirs.length cd] 43)) (w.heap.size + 2) 32 #[.string p.err, .string p.dir, .slice Ax m cx] := (HBX.out.below hbxg HBX.out.lt).alloc _
      have hnb : Value.ownBlock (.slice Ax m cx) ≠ some wx.heap.size := fun e => by have := (O1.out.lt _ e).2; omega
      have hft2 := Lib.hid hft
      have HBW := Lib.hid hbW
      have HOW2 := Lib.hid hoW
      have HBG := Lib.hid hbg2
      have HXG := Lib.hid hbxg
      clear hft hbW hoW hbg hbg2 hbxg
      go_wp2_with fail
      have hHeld2 : (∀ j, wg.cell? ⟨wx.heap.size, j, none⟩ = (#[.string f.err, .string f.perr, .string f.name, .string f.syn, .string f.pkg, .bool f.ign, .bool f.bin, .string f.cgo, .string f.con, .slice A1 f.cons.length c1, .slice A2 f.imps.length c2, .slice A3 f.embs.length c3, .slice A4 f.dirs.length c4] : Array Value)[j]?) ∧ wg.cell? ⟨w.heap.size + 2, 2, none⟩ = some (.slice Ax m cx) := ⟨keepCells (HBG.out.block _ (by omega)) hHeld.1, (HBG.out.cell (p := ⟨w.heap.size + 2, 2, none⟩) (Nat.lt_of_lt_of_le HBX.out.lt (Nat.le_succ _))).trans hHeld.2⟩
      refine hK.out _ _ (.inr hHeld2) ?_
      clear hK K
      (try go_frame)
      clear hHeld
      refine wpAnyM_only (i := 4) rfl (by kernel_rfl) (fun K hK => ?_)
      go_simp
      have hHeld3 : (∀ j, (wg.alloc (.cells #[.string f.err, .string f.perr, .string f.name, .string f.syn, .string f.pkg, .bool f.ign, .bool f.bin, .string f.cgo, .string f.con, .slice Ac f.cons.length cc, .slice Ai f.imps.length ci, .slice Ae f.embs.length ce, .slice Ad f.dirs.length cd] 43)).cell? ⟨wx.heap.size, j, none⟩ = (#[.string f.err, .string f.perr, .string f.name, .string f.syn, .string f.pkg, .bool f.ign, .bool f.bin, .string f.cgo, .string f.con, .slice A1 f.cons.length c1, .slice A2 f.imps.length c2, .slice A3 f.embs.length c3, .slice A4 f.dirs.length c4] : Array Value)[j]?) ∧ (wg.alloc (.cells #[.string f.err, .string f.perr, .string f.name, .string f.syn, .string f.pkg, .bool f.ign, .bool f.bin, .string f.cgo, .string f.con, .slice Ac f.cons.length cc, .slice Ai f.imps.length ci, .slice Ae f.embs.length ce, .slice Ad f.dirs.length cd] 43)).cell? ⟨w.heap.size + 2, 2, none⟩ = some (.slice Ax m cx) := ⟨keepCells (Below.heap_alloc wg _ _ (by omega)) hHeld2.1, (World.cell?_alloc_lt wg _ _ (Nat.lt_of_lt_of_le HBX.out.lt (by omega))).trans hHeld2.2⟩
      refine hK.out _ _ (.inr hHeld3) ?_
      clear hK K
      (try go_frame)
      clear hHeld2
      refine wpAnyM_only (i := 5) rfl (by kernel_rfl) (fun K hK => ?_)
      refine step_append_any _ (by rfl) (.tmp 19) (.tmp 22) _ (by rfl) w.heap.size 43 i0 _ 13 216 Tryz.underlying30 hi0 hz0 hz1 hz2 (by rfl) (by decide) (.slice Ax m cx) m css.flatten (by rfl) HOW2.out _ (some ⟨wg.heap.size, 0, none⟩) 1 1 #[.string f.err, .string f.perr, .string f.name, .string f.syn, .string f.pkg, .bool f.ign, .bool f.bin, .string f.cgo, .string f.con, .slice Ac f.cons.length cc, .slice Ai f.imps.length ci, .slice Ae f.embs.length ce, .slice Ad f.dirs.length cd].toList (by rfl) (reads_row wg #[.string f.err, .string f.perr, .string f.name, .string f.syn, .string f.pkg, .bool f.ign, .bool f.bin, .string f.cgo, .string f.con, .slice Ac f.cons.length cc, .slice Ai f.imps.length ci, .slice Ae f.embs.length ce, .slice Ad f.dirs.length cd] 43 wg.heap.size 1 13 rfl rfl) (FileR.one (FileT.r hft2.out)) (by unfold maxLen; omega) (by omega) (by simp; omega) ?_
      intro vA wA hownA hgA _
      have hbA := HBW.out.grown hgA (fun e => own_blk_ne HOW2.out HBW.out (by decide) e.symm)
      have hszA : wg.heap.size + 1 ≤ wA.heap.size := by have := hgA.size; simpa using this
      obtain ⟨AA, cA, rfl⟩ := own_form' hownA
      have hHeld4 : (∀ j, wA.cell? ⟨wx.heap.size, j, none⟩ = (#[.string f.err, .string f.perr, .string f.name, .string f.syn, .string f.pkg, .bool f.ign, .bool f.bin, .string f.cgo, .string f.con, .slice A1 f.cons.length c1, .slice A2 f.imps.length c2, .slice A3 f.embs.length c3, .slice A4 f.dirs.length c4] : Array Value)[j]?) ∧ wA.cell? ⟨w.heap.size + 2, 2, none⟩ = some (.slice Ax m cx) := ⟨keepCells (hgA.block _ (by simp; omega) (Ne.symm hnb)) hHeld3.1, hbA.cell 2⟩
      have hfA := hbA.frozen 2
      have hS1 : SameOn [43, 32] wg.heap.size wg (wA.setCell ⟨w.heap.size + 2, 2, none⟩ (.slice AA (m + 1) cA)) := ((SameOn.below ((Below.refl wg.heap.size wg).alloc (Nat.le_refl _) _) (Nat.le_refl _)).trans (SameOn.own HOW2.out hgA (by decide))).trans (SameOn.setCell (p := ⟨w.heap.size + 2, 2, none⟩) hbA (by decide))
      have hS0 : SameOn [43, 32] wx.heap.size wx (wA.setCell ⟨w.heap.size + 2, 2, none⟩ (.slice AA (m + 1) cA)) := (SameOn.below HXG.out (Nat.le_refl _)).trans (hS1.less (by omega))
      have hszF : wA.heap.size = (wA.setCell ⟨w.heap.size + 2, 2, none⟩ (.slice AA (m + 1) cA)).heap.size := by simp
      have hneA : Value.ownBlock (.slice AA (m + 1) cA) ≠ some (w.heap.size + 2) := own_blk_ne hownA hbA (by decide)
      have hL : ListOwn (wA.setCell ⟨w.heap.size + 2, 2, none⟩ (.slice AA (m + 1) cA)) w.heap.size 43 13 (FileT (wA.setCell ⟨w.heap.size + 2, 2, none⟩ (.slice AA (m + 1) cA)) (wA.setCell ⟨w.heap.size + 2, 2, none⟩ (.slice AA (m + 1) cA)).heap.size 101) (.slice AA (m + 1) cA) (p.files.take (m + 1)) := by
        rw [htm.out]
        refine ListOwn.snoc (cs := #[.string f.err, .string f.perr, .string f.name, .string f.syn, .string f.pkg, .bool f.ign, .bool f.bin, .string f.cgo, .string f.con, .slice Ac f.cons.length cc, .slice Ai f.imps.length ci, .slice Ae f.embs.length ce, .slice Ad f.dirs.length cd].toList) (css := css) ?_ (by rw [o2, htl]) o3 (fun i cs x a b => ((O4.out i cs x a b).same hS0 (by decide) (by decide)).more (by omega)) rfl ((hft2.out.same hS1 (by decide) (by decide)).more (by omega))
        rw [htl]
        exact hownA.kept (grownBy_setCell wA ⟨w.heap.size + 2, 2, none⟩ _) (.inr hneA)
      have hBF : Blk (wA.setCell ⟨w.heap.size + 2, 2, none⟩ (.slice AA (m + 1) cA)) (w.heap.size + 2) 32 #[.string p.err, .string p.dir, .slice AA (m + 1) cA] := hbA.set_ 2 _
      have hFF : Below w.heap.size w (wA.setCell ⟨w.heap.size + 2, 2, none⟩ (.slice AA (m + 1) cA)) := (((hFx.trans (HXG.out.mono hszx)).alloc (by omega) _).grown hgA (by simp; omega) (fun j hj => (O1.out.lt j hj).1)).setCell (by show w.heap.size ≤ w.heap.size + 2; omega) _
      have HL2 := Lib.hid hL
      have HBF := Lib.hid hBF
      have HFF := Lib.hid hFF
      have hRF := ((((HBR.out.below HXG.out HBR.out.lt).alloc (.cells #[.string f.err, .string f.perr, .string f.name, .string f.syn, .string f.pkg, .bool f.ign, .bool f.bin, .string f.cgo, .string f.con, .slice Ac f.cons.length cc, .slice Ai f.imps.length ci, .slice Ae f.embs.length ce, .slice Ad f.dirs.length cd] 43)).grown hgA (fun e => own_blk_ne HOW2.out ((HBR.out.below HXG.out HBR.out.lt).alloc (.cells #[.string f.err, .string f.perr, .string f.name, .string f.syn, .string f.pkg, .bool f.ign, .bool f.bin, .string f.cgo, .string f.con, .slice Ac f.cons.length cc, .slice Ai f.imps.length ci, .slice Ae f.embs.length ce, .slice Ad f.dirs.length cd] 43)) (by decide) e.symm)).far (p := ⟨w.heap.size + 2, 2, none⟩) (by show w.heap.size + 1 ≠ w.heap.size + 2; omega) (.slice AA (m + 1) cA))
      have HRF := Lib.hid hRF
      clear hRF
      clear hL hBF hFF hS1 hS0 hszF hneA hownA hgA
      refine hK.out _ _ (.inr hHeld4) ?_
      clear hK K
      (try go_frame)
      clear hHeld3
      refine wpAnyM_take (i := 6) (v := (.pointer (some ⟨w.heap.size + 2, 2, none⟩))) rfl (by kernel_rfl) (by kernel_rfl) (by kernel_rfl) (by kernel_rfl) (by decide) (fun _ _ _ h => h) (by assumption) (Or.inl ⟨by rfl, ?_⟩) ?_
      · intro W hSW
        (try dsimp only at hSW)
        go_simp
      (try go_frame)
      refine wpAnyM_only (i := 7) rfl (by kernel_rfl) (fun K hK => ?_)
      have hcA := hHeld4.2
      go_simp
      refine hK.out _ _ (.inl rfl) ?_
      clear hK K
      (try go_frame)
      refine wpAnyM_done (by kernel_rfl) (NoPanic.normal ?_)
      clear hHeld4 hcA hfA
      go_wp2_with fail
      go_roundw
      case rel => exact ⟨m + 1, by omega, by go_num, HFF.out, HRF.out, _, HBF.out, HL2.out⟩
      case measure => simp [intOf]; omega
    · have hml : m = p.files.length := by omega
      subst hml
      rw [List.take_length] at hox
      obtain ⟨Ax, cx, rfl⟩ : ∃ A c, vx = .slice A p.files.length c := ListAt.form hox.t.at_
      have e0 : wx.cell? ⟨w.heap.size + 2, 0, none⟩ = some (.string p.err) := hbx.cell 0
      have e1 : wx.cell? ⟨w.heap.size + 2, 1, none⟩ = some (.string p.dir) := hbx.cell 1
      have e2 : wx.cell? ⟨w.heap.size + 2, 2, none⟩ = some (.slice Ax p.files.length cx) := hbx.cell 2
      have d0 := hbr.cell 0
      have d1 := hbr.cell 1
      have d2 := hbr.cell 2
      have f0 := hbr.frozen 0
      have f1 := hbr.frozen 1
      have f2 := hbr.frozen 2
      have HOX := Lib.hid hox
      have HBR := Lib.hid hbr
      clear hox hbr hbx
      go_wp2_with fail
      have hB3 := ((HBR.out.set_ 0 (.string p.err)).set_ 1 (.string p.dir)).set_ 2 (.slice Ax p.files.length cx)
      simp only [List.setIfInBounds_toArray, List.set_cons_zero, List.set_cons_succ] at hB3
      refine bodyPost_ret (results_cell 2 32 rfl (w.heap.size + 1) _ rfl _ Tryz.underlying32 rfl (by kernel_rfl) hB3.range) rfl ?_
      have hS : SameOn [32] wx.heap.size wx (((wx.setCell ⟨w.heap.size + 1, 0, none⟩ (.string p.err)).setCell ⟨w.heap.size + 1, 1, none⟩ (.string p.dir)).setCell ⟨w.heap.size + 1, 2, none⟩ (.slice Ax p.files.length cx)) :=
        ((SameOn.setCell (p := ⟨w.heap.size + 1, 0, none⟩) HBR.out (by decide)).trans (SameOn.setCell (p := ⟨w.heap.size + 1, 1, none⟩) (HBR.out.set_ 0 _) (by decide))).trans (SameOn.setCell (p := ⟨w.heap.size + 1, 2, none⟩) ((HBR.out.set_ 0 _).set_ 1 _) (by decide))
      exact ⟨_, _, rfl, ⟨_, rfl, ((HOX.out.t.same hS (by decide)).more (by simp)).imp fun _ _ h => (h.same hS (by decide) (by decide)).more (by simp)⟩, ((hFx.setCell (by exact Nat.le_succ _) _).setCell (by exact Nat.le_succ _) _).setCell (by exact Nat.le_succ _) _⟩
end Go.Proofs.YtanfimeajalffaaGreatDoor
