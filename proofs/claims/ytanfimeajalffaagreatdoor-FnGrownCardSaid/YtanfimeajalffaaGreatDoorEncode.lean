/-
  The contract of impl.Encode, over that of ZZEncode. Conditions: packages within the law's bounds, in the order of their folders.
-/
import Derived.Test.YtanfimeajalffaaGreatDoorGC
namespace Go.Proofs.YtanfimeajalffaaGreatDoor
open Go.RowKit
attribute [local go_sem ↓] Go.wp_at_zero Go.wp_at_succ

theorem mfile_info : (Tryz.prog.info? 56).map (fun i => (i.zero, i.size, i.bytes)) = some (some (.agg #[.string ByteArray.empty, .string ByteArray.empty, .string ByteArray.empty, .string ByteArray.empty, .string ByteArray.empty, .bool false, .bool false, .string ByteArray.empty, .string ByteArray.empty, .slice none 0 0, .slice none 0 0, .slice none 0 0, .slice none 0 0]), 13, 216) := by kernel_rfl
theorem mpkg_info : (Tryz.prog.info? 52).map (fun i => (i.zero, i.size, i.bytes)) = some (some (.agg #[.string ByteArray.empty, .string ByteArray.empty, .slice none 0 0]), 3, 56) := by kernel_rfl

theorem own_less {w : World} {base base' : Nat} {e : TypeId} {size n : Nat} {v : Value} {xs : List Value} (h : w.ownsRow base e size v n xs) (hb : base' ≤ base) : w.ownsRow base' e size v n xs := by
  refine ⟨h.1, ?_⟩
  rcases h.2 with h0 | ⟨g, cap, cur, hv, hbg, h1⟩
  · exact .inl h0
  · exact .inr ⟨g, cap, cur, hv, by omega, h1⟩

/-- givenFile, its result written out. -/
theorem givenFile_lit (B : Nat) (f : FileD) (cs : List Value) (w : World) (hB : B ≤ w.heap.size) (hf : f.Ok) (hr : FileR w B cs f) :
    Calls Tryz.prog 20 #[.agg cs.toArray] w fun e w' => ∃ Ac cc Ai ci Ae ce Ad cd, e = .returned (.agg #[.string f.err, .string f.perr, .string f.name, .string f.syn, .string f.pkg, .bool f.ign, .bool f.bin, .string f.cgo, .string f.con, .slice Ac f.cons.length cc, .slice Ai f.imps.length ci, .slice Ae f.embs.length ce, .slice Ad f.dirs.length cd]) ∧
      FileT w' w'.heap.size 90 (fileCells f (.slice Ac f.cons.length cc) (.slice Ai f.imps.length ci) (.slice Ae f.embs.length ce) (.slice Ad f.dirs.length cd)) f ∧ Below w.heap.size w w' := by
  have h1 := hf.consL
  have h2 := hf.impsL
  have h3 := hf.embsL
  have h4 := hf.dirsL
  refine (givenFile_any B f cs w hB (by omega) (by omega) (by omega) (by omega) hr).mono ?_
  rintro e w' ⟨cs', rfl, hT, hb⟩
  have hT2 := hT
  obtain ⟨vc, vi, ve, vd, rfl, ⟨A1, c1, rfl, _⟩, ⟨A2, c2, rfl, _⟩, ⟨A3, c3, rfl, _⟩, ⟨A4, c4, rfl, _⟩⟩ := hT2
  exact ⟨A1, c1, A2, c2, A3, c3, A4, c4, rfl, hT, hb⟩

theorem take_snoc' {α : Type} (l : List α) (k : Nat) (hk : k < l.length) : l.take (k + 1) = l.take k ++ [l[k]] := by
  rw [List.take_add_one, List.getElem?_eq_getElem hk]
  rfl

set_option maxHeartbeats 8000000 in
set_option maxRecDepth 100000 in
theorem encode_of (B : Nat) (v : Value) (ps : List PkgD) (w : World) (hB : B ≤ w.heap.size) (hok : PkgsOk ps) (hv : PkgsAt w B v ps)
    (HZ : ∀ (u : Value) (W : World), PkgsAt W W.heap.size u ps → Calls Tryz.prog 21 #[u] W fun e w' => ∃ v', e = .returned v' ∧ w'.ownsRow W.heap.size 5 1 v' (enc ps).length (Lib.byteCells (enc ps)) ∧ Below W.heap.size W w') :
    Calls Tryz.prog 10 #[v] w fun e w' => ∃ v', e = .returned v' ∧ w'.ownsRow w.heap.size 5 1 v' (enc ps).length (Lib.byteCells (enc ps)) ∧ Below w.heap.size w w' := by
  obtain ⟨i0, hi0, hz0, hz1, hz2⟩ := info_parts' mfile_info
  obtain ⟨i1, hi1, hz3, hz4, hz5⟩ := info_parts' mpkg_info
  obtain ⟨A, c, rfl⟩ := ListAt.form hv
  have HV := Lib.hid hv
  have HOK := Lib.hid hok
  have HL := hok.len
  have HZ' := Lib.hid HZ
  have hown0 : ListOwn (w.alloc (.cells #[] 52)) w.heap.size 52 3 (PkgT (w.alloc (.cells #[] 52)) (w.heap.size + 1) 56 90) (.slice (some ⟨w.heap.size, 0, none⟩) 0 0) (ps.take 0) :=
    ⟨[], World.ownsRow_made w #[] 0 (Nat.le_refl _) (by simp [maxLen]) rfl, rfl, (fun cs h => by cases h), (fun i cs x h => by simp at h)⟩
  have hbw0 : Below w.heap.size w (w.alloc (.cells #[] 52)) := (Below.refl _ _).alloc (Nat.le_refl _) _
  have HO0 := Lib.hid hown0
  clear hv hok HZ hown0
  go_enter Tryz.func10, Tryz.ntmps10
  go_wp2_with fail
  go_loopw [3, 5, 6, 8, 12] (fun v _ _ _ i wr => ∃ k : Nat, k ≤ ps.length ∧ i = .int .i64 k ∧ ListOwn wr w.heap.size 52 3 (PkgT wr wr.heap.size 56 90) v (ps.take k) ∧ Below w.heap.size w wr) (fun _ _ _ _ i _ => ps.length - (intOf i).toNat)
  case atStart => exact ⟨0, Nat.zero_le _, rfl, by simpa using HO0.out, hbw0⟩
  case round =>
    obtain ⟨k, hk, rfl, hown, hF⟩ := hrel
    clear hbw0
    have hsz := hF.size
    by_cases hlt : k < ps.length
    · obtain ⟨gp, op, cs, rfl, hgp, _, ⟨vf, rfl, hfs⟩, hcell⟩ := (PkgsAt.below HV.out (hF.mono hB)).get (by omega) k hlt
      have c0 : wr.cell? ⟨gp, op + k * 3, none⟩ = some (.string ps[k].err) := hcell 0 _ rfl
      have c1 : wr.cell? ⟨gp, op + k * 3 + 1, none⟩ = some (.string ps[k].dir) := hcell 1 _ rfl
      have c2 : wr.cell? ⟨gp, op + k * 3 + 2, none⟩ = some vf := hcell 2 _ rfl
      have hpk := HOK.out.each _ (List.getElem_mem hlt)
      have hts := Lib.hid (take_snoc' ps k hlt)
      generalize ps[k] = p at c0 c1 c2 hfs hpk hts
      obtain ⟨Af, cf, rfl⟩ := hfs.form
      have HFS := Lib.hid hfs
      have HPK := Lib.hid hpk
      have HFL := hpk.filesL
      have HOW := Lib.hid hown
      clear hcell hfs hpk hown
      obtain ⟨wo, rfl⟩ : ∃ wo : World, wo = wr := ⟨_, rfl⟩
      have hB1 : Blk ((wo.alloc (.cells #[.string p.err, .string p.dir, .slice Af p.files.length cf] 32)).alloc (.cells #[.string p.err, .string p.dir, .slice none 0 0] 52)) (wo.heap.size + 1) 52 #[.string p.err, .string p.dir, .slice none 0 0] := by
        have := Blk.new (wo.alloc (.cells #[.string p.err, .string p.dir, .slice Af p.files.length cf] 32)) 52 #[.string p.err, .string p.dir, .slice none 0 0]
        rw [World.size_alloc] at this
        exact this
      have hW1 : Below wo.heap.size wo ((wo.alloc (.cells #[.string p.err, .string p.dir, .slice Af p.files.length cf] 32)).alloc (.cells #[.string p.err, .string p.dir, .slice none 0 0] 52)) := ((Below.refl _ _).alloc (Nat.le_refl _) _).alloc (by simp) _
      have HB1 := Lib.hid hB1
      clear hB1
      go_wp2_with fail
      go_loopw [8, 24] (fun _ j wx => ∃ m : Nat, m ≤ p.files.length ∧ j = .int .i64 m ∧ Below wo.heap.size wo wx ∧ ∃ vx, Blk wx (wo.heap.size + 1) 52 #[.string p.err, .string p.dir, vx] ∧ ListOwn wx wo.heap.size 56 13 (FileT wx wx.heap.size 90) vx (p.files.take m)) (fun _ j _ => p.files.length - (intOf j).toNat)
      case atStart => exact ⟨0, Nat.zero_le _, rfl, hW1, _, HB1.out, ListOwn.nil rfl _⟩
      case round =>
        obtain ⟨m, hm, rfl, hFx, vx, hbx, hox⟩ := hrel
        clear hW1 HB1 c0 c1 c2
        obtain ⟨wx, rfl⟩ : ∃ wx : World, wx = wr := ⟨_, rfl⟩
        have hszx := hFx.size
        by_cases hltm : m < p.files.length
        · obtain ⟨gf, of, cs, rfl, hgf, _, hR, hcell⟩ := (ListAt.files_below HFS.out (hFx.mono (Nat.le_trans hB hsz))).get (by omega) m hltm
          have hfok := HPK.out.files _ (List.getElem_mem hltm)
          have htm := Lib.hid (take_snoc' p.files m hltm)
          generalize p.files[m] = f at hR hfok htm
          have GC := Lib.hid (fun (W : World) (hW : Below wx.heap.size wx W) => givenFile_lit B f cs W (Nat.le_trans (Nat.le_trans (Nat.le_trans hB hsz) hszx) hW.size) hfok (hR.below (hW.mono (Nat.le_trans (Nat.le_trans hB hsz) hszx))))
          obtain ⟨vc, vi, ve, vd, rfl, ⟨A1, c1, rfl, _⟩, ⟨A2, c2, rfl, _⟩, ⟨A3, c3, rfl, _⟩, ⟨A4, c4, rfl, _⟩⟩ := hR
          have d0 : wx.cell? ⟨gf, of + m * 13, none⟩ = some (.string f.err) := hcell 0 _ rfl
          have d1 : wx.cell? ⟨gf, of + m * 13 + 1, none⟩ = some (.string f.perr) := hcell 1 _ rfl
          have d2 : wx.cell? ⟨gf, of + m * 13 + 2, none⟩ = some (.string f.name) := hcell 2 _ rfl
          have d3 : wx.cell? ⟨gf, of + m * 13 + 3, none⟩ = some (.string f.syn) := hcell 3 _ rfl
          have d4 : wx.cell? ⟨gf, of + m * 13 + 4, none⟩ = some (.string f.pkg) := hcell 4 _ rfl
          have d5 : wx.cell? ⟨gf, of + m * 13 + 5, none⟩ = some (.bool f.ign) := hcell 5 _ rfl
          have d6 : wx.cell? ⟨gf, of + m * 13 + 6, none⟩ = some (.bool f.bin) := hcell 6 _ rfl
          have d7 : wx.cell? ⟨gf, of + m * 13 + 7, none⟩ = some (.string f.cgo) := hcell 7 _ rfl
          have d8 : wx.cell? ⟨gf, of + m * 13 + 8, none⟩ = some (.string f.con) := hcell 8 _ rfl
          have d9 : wx.cell? ⟨gf, of + m * 13 + 9, none⟩ = some (.slice A1 f.cons.length c1) := hcell 9 _ rfl
          have d10 : wx.cell? ⟨gf, of + m * 13 + 10, none⟩ = some (.slice A2 f.imps.length c2) := hcell 10 _ rfl
          have d11 : wx.cell? ⟨gf, of + m * 13 + 11, none⟩ = some (.slice A3 f.embs.length c3) := hcell 11 _ rfl
          have d12 : wx.cell? ⟨gf, of + m * 13 + 12, none⟩ = some (.slice A4 f.dirs.length c4) := hcell 12 _ rfl
          obtain ⟨css, o1, o2, o3, o4⟩ := hox
          have htl : (p.files.take m).length = m := List.length_take_of_le (by omega)
          rw [htl] at o1 o2
          obtain ⟨Ax, cx, rfl⟩ := own_form' o1
          have hcx : wx.cell? ⟨wo.heap.size + 1, 2, none⟩ = some (.slice Ax m cx) := hbx.cell 2
          have hS0 : Hid ((∀ j, ((wx.alloc (.cells #[.string f.err, .string f.perr, .string f.name, .string f.syn, .string f.pkg, .bool f.ign, .bool f.bin, .string f.cgo, .string f.con, .slice A1 f.cons.length c1, .slice A2 f.imps.length c2, .slice A3 f.embs.length c3, .slice A4 f.dirs.length c4] 43)).drew).cell? ⟨wx.heap.size, j, none⟩ = (#[.string f.err, .string f.perr, .string f.name, .string f.syn, .string f.pkg, .bool f.ign, .bool f.bin, .string f.cgo, .string f.con, .slice A1 f.cons.length c1, .slice A2 f.imps.length c2, .slice A3 f.embs.length c3, .slice A4 f.dirs.length c4] : Array Value)[j]?) ∧ ((wx.alloc (.cells #[.string f.err, .string f.perr, .string f.name, .string f.syn, .string f.pkg, .bool f.ign, .bool f.bin, .string f.cgo, .string f.con, .slice A1 f.cons.length c1, .slice A2 f.imps.length c2, .slice A3 f.embs.length c3, .slice A4 f.dirs.length c4] 43)).drew).cell? ⟨wo.heap.size + 1, 2, none⟩ = some (.slice Ax m cx)) := Lib.hid ⟨(Blk.new wx 43 #[.string f.err, .string f.perr, .string f.name, .string f.syn, .string f.pkg, .bool f.ign, .bool f.bin, .string f.cgo, .string f.con, .slice A1 f.cons.length c1, .slice A2 f.imps.length c2, .slice A3 f.embs.length c3, .slice A4 f.dirs.length c4]).cell, (World.cell?_alloc_lt wx _ _ hbx.lt).trans hcx⟩
          have O1 := Lib.hid o1
          have O4 := Lib.hid o4
          have HBX := Lib.hid hbx
          clear hcell o1 o4 hbx hcx
          go_wp2_with fail
          refine wp_region_m 7 (fun W => (∀ j, W.cell? ⟨wx.heap.size, j, none⟩ = (#[.string f.err, .string f.perr, .string f.name, .string f.syn, .string f.pkg, .bool f.ign, .bool f.bin, .string f.cgo, .string f.con, .slice A1 f.cons.length c1, .slice A2 f.imps.length c2, .slice A3 f.embs.length c3, .slice A4 f.dirs.length c4] : Array Value)[j]?) ∧ W.cell? ⟨wo.heap.size + 1, 2, none⟩ = some (.slice Ax m cx)) (by kernel_rfl) ?_
          have hHeld := hS0.out
          refine wpAnyM_take (i := 0) (v := (.pointer (some ⟨wo.heap.size + 1, 2, none⟩))) rfl (by kernel_rfl) (by kernel_rfl) (by kernel_rfl) (by kernel_rfl) (by decide) (fun _ _ _ h => h) (by assumption) (Or.inl ⟨by rfl, ?_⟩) ?_
          · intro W hSW
            (try dsimp only at hSW)
            go_simp
          (try go_frame)
          refine wpAnyM_take (i := 1) (v := (.slice Ax m cx)) rfl (by kernel_rfl) (by kernel_rfl) (by kernel_rfl) (by kernel_rfl) (by decide) (fun _ _ _ h => h) (by assumption) (Or.inl ⟨by rfl, ?_⟩) ?_
          · intro W hSW
            (try dsimp only at hSW)
            go_simp
          (try go_frame)
          refine wpAnyM_take (i := 2) (v := (.agg #[.string f.err, .string f.perr, .string f.name, .string f.syn, .string f.pkg, .bool f.ign, .bool f.bin, .string f.cgo, .string f.con, .slice A1 f.cons.length c1, .slice A2 f.imps.length c2, .slice A3 f.embs.length c3, .slice A4 f.dirs.length c4])) rfl (by kernel_rfl) (by kernel_rfl) (by kernel_rfl) (by kernel_rfl) (by decide) (fun _ _ _ h => h) (by assumption) (Or.inl ⟨by rfl, ?_⟩) ?_
          · intro W hSW
            (try dsimp only at hSW)
            go_simp
          (try go_frame)
          refine wpAnyM_only (i := 3) rfl (by kernel_rfl) (fun K hK => ?_)
          go_simp
          refine (GC.out _ (((Below.refl _ _).alloc (Nat.le_refl _) _).drew)).mono ?_
          rintro e wg ⟨Ac, cc, Ai, ci, Ae, ce, Ad, cd, rfl, hft, hbg⟩
          have hbg2 : Below (wx.heap.size + 1) ((wx.alloc (.cells #[.string f.err, .string f.perr, .string f.name, .string f.syn, .string f.pkg, .bool f.ign, .bool f.bin, .string f.cgo, .string f.con, .slice A1 f.cons.length c1, .slice A2 f.imps.length c2, .slice A3 f.embs.length c3, .slice A4 f.dirs.length c4] 43)).drew) wg := by
            have e : ((wx.alloc (.cells #[.string f.err, .string f.perr, .string f.name, .string f.syn, .string f.pkg, .bool f.ign, .bool f.bin, .string f.cgo, .string f.con, .slice A1 f.cons.length c1, .slice A2 f.imps.length c2, .slice A3 f.embs.length c3, .slice A4 f.dirs.length c4] 43)).drew).heap.size = wx.heap.size + 1 := by simp
            rw [e] at hbg
            exact hbg
          have hszg : wx.heap.size + 1 ≤ wg.heap.size := by have := hbg2.size; simpa using this
          have hbxg : Below wx.heap.size wx wg := (((Below.refl _ _).alloc (Nat.le_refl _) _).drew).trans (hbg2.mono (by omega))
          have hoW : (wg.alloc (.cells #[.string f.err, .string f.perr, .string f.name, .string f.syn, .string f.pkg, .bool f.ign, .bool f.bin, .string f.cgo, .string f.con, .slice Ac f.cons.length cc, .slice Ai f.imps.length ci, .slice Ae f.embs.length ce, .slice Ad f.dirs.length cd] 56)).ownsRow wo.heap.size 56 13 (.slice Ax m cx) m css.flatten := (own_below O1.out hbxg).alloc _
          have hbW : Blk (wg.alloc (.cells #[.string f.err, .string f.perr, .string f.name, .string f.syn, .string f.pkg, .bool f.ign, .bool f.bin, .string f.cgo, .string f.con, .slice Ac f.cons.length cc, .slice Ai f.imps.length ci, .slice Ae f.embs.length ce, .slice Ad f.dirs.length cd] 56)) (wo.heap.size + 1) 52 #[.string p.err, .string p.dir, .slice Ax m cx] := (HBX.out.below hbxg HBX.out.lt).alloc _
          have hnb : Value.ownBlock (.slice Ax m cx) ≠ some wx.heap.size := fun e => by have := (O1.out.lt _ e).2; omega
          have hft2 := Lib.hid hft
          have HBW := Lib.hid hbW
          have HOW2 := Lib.hid hoW
          have HBG := Lib.hid hbg2
          have HXG := Lib.hid hbxg
          clear hft hbW hoW hbg hbg2 hbxg
          go_wp2_with fail
          have hHeld2 : (∀ j, wg.cell? ⟨wx.heap.size, j, none⟩ = (#[.string f.err, .string f.perr, .string f.name, .string f.syn, .string f.pkg, .bool f.ign, .bool f.bin, .string f.cgo, .string f.con, .slice A1 f.cons.length c1, .slice A2 f.imps.length c2, .slice A3 f.embs.length c3, .slice A4 f.dirs.length c4] : Array Value)[j]?) ∧ wg.cell? ⟨wo.heap.size + 1, 2, none⟩ = some (.slice Ax m cx) := ⟨keepCells (HBG.out.block _ (by omega)) hHeld.1, (HBG.out.cell (p := ⟨wo.heap.size + 1, 2, none⟩) (Nat.lt_of_lt_of_le HBX.out.lt (Nat.le_succ _))).trans hHeld.2⟩
          refine hK.out _ _ (.inr hHeld2) ?_
          clear hK K
          (try go_frame)
          clear hHeld
          refine wpAnyM_only (i := 4) rfl (by kernel_rfl) (fun K hK => ?_)
          go_simp
          have hHeld3 : (∀ j, (wg.alloc (.cells #[.string f.err, .string f.perr, .string f.name, .string f.syn, .string f.pkg, .bool f.ign, .bool f.bin, .string f.cgo, .string f.con, .slice Ac f.cons.length cc, .slice Ai f.imps.length ci, .slice Ae f.embs.length ce, .slice Ad f.dirs.length cd] 56)).cell? ⟨wx.heap.size, j, none⟩ = (#[.string f.err, .string f.perr, .string f.name, .string f.syn, .string f.pkg, .bool f.ign, .bool f.bin, .string f.cgo, .string f.con, .slice A1 f.cons.length c1, .slice A2 f.imps.length c2, .slice A3 f.embs.length c3, .slice A4 f.dirs.length c4] : Array Value)[j]?) ∧ (wg.alloc (.cells #[.string f.err, .string f.perr, .string f.name, .string f.syn, .string f.pkg, .bool f.ign, .bool f.bin, .string f.cgo, .string f.con, .slice Ac f.cons.length cc, .slice Ai f.imps.length ci, .slice Ae f.embs.length ce, .slice Ad f.dirs.length cd] 56)).cell? ⟨wo.heap.size + 1, 2, none⟩ = some (.slice Ax m cx) := ⟨keepCells (Below.heap_alloc wg _ _ (by omega)) hHeld2.1, (World.cell?_alloc_lt wg _ _ (Nat.lt_of_lt_of_le HBX.out.lt (by omega))).trans hHeld2.2⟩
          refine hK.out _ _ (.inr hHeld3) ?_
          clear hK K
          (try go_frame)
          clear hHeld2
          refine wpAnyM_only (i := 5) rfl (by kernel_rfl) (fun K hK => ?_)
          refine step_append_any _ (by rfl) (.tmp 29) (.tmp 32) _ (by rfl) wo.heap.size 56 i0 _ 13 216 Tryz.underlying50 hi0 hz0 hz1 hz2 (by rfl) (by decide) (.slice Ax m cx) m css.flatten (by rfl) HOW2.out _ (some ⟨wg.heap.size, 0, none⟩) 1 1 #[.string f.err, .string f.perr, .string f.name, .string f.syn, .string f.pkg, .bool f.ign, .bool f.bin, .string f.cgo, .string f.con, .slice Ac f.cons.length cc, .slice Ai f.imps.length ci, .slice Ae f.embs.length ce, .slice Ad f.dirs.length cd].toList (by rfl) (reads_row wg #[.string f.err, .string f.perr, .string f.name, .string f.syn, .string f.pkg, .bool f.ign, .bool f.bin, .string f.cgo, .string f.con, .slice Ac f.cons.length cc, .slice Ai f.imps.length ci, .slice Ae f.embs.length ce, .slice Ad f.dirs.length cd] 56 wg.heap.size 1 13 rfl rfl) (FileR.one (FileT.r hft2.out)) (by unfold maxLen; omega) (by omega) (by simp; omega) ?_
          intro vA wA hownA hgA _
          have hbA := HBW.out.grown hgA (fun e => own_blk_ne HOW2.out HBW.out (by decide) e.symm)
          have hszA : wg.heap.size + 1 ≤ wA.heap.size := by have := hgA.size; simpa using this
          obtain ⟨AA, cA, rfl⟩ := own_form' hownA
          have hHeld4 : (∀ j, wA.cell? ⟨wx.heap.size, j, none⟩ = (#[.string f.err, .string f.perr, .string f.name, .string f.syn, .string f.pkg, .bool f.ign, .bool f.bin, .string f.cgo, .string f.con, .slice A1 f.cons.length c1, .slice A2 f.imps.length c2, .slice A3 f.embs.length c3, .slice A4 f.dirs.length c4] : Array Value)[j]?) ∧ wA.cell? ⟨wo.heap.size + 1, 2, none⟩ = some (.slice Ax m cx) := ⟨keepCells (hgA.block _ (by simp; omega) (Ne.symm hnb)) hHeld3.1, hbA.cell 2⟩
          have hfA := hbA.frozen 2
          have hS1 : SameOn [56, 52] wg.heap.size wg (wA.setCell ⟨wo.heap.size + 1, 2, none⟩ (.slice AA (m + 1) cA)) := ((SameOn.below ((Below.refl wg.heap.size wg).alloc (Nat.le_refl _) _) (Nat.le_refl _)).trans (SameOn.own HOW2.out hgA (by decide))).trans (SameOn.setCell (p := ⟨wo.heap.size + 1, 2, none⟩) hbA (by decide))
          have hS0 : SameOn [56, 52] wx.heap.size wx (wA.setCell ⟨wo.heap.size + 1, 2, none⟩ (.slice AA (m + 1) cA)) := (SameOn.below HXG.out (Nat.le_refl _)).trans (hS1.less (by omega))
          have hszF : wA.heap.size = (wA.setCell ⟨wo.heap.size + 1, 2, none⟩ (.slice AA (m + 1) cA)).heap.size := by simp
          have hneA : Value.ownBlock (.slice AA (m + 1) cA) ≠ some (wo.heap.size + 1) := own_blk_ne hownA hbA (by decide)
          have hL : ListOwn (wA.setCell ⟨wo.heap.size + 1, 2, none⟩ (.slice AA (m + 1) cA)) wo.heap.size 56 13 (FileT (wA.setCell ⟨wo.heap.size + 1, 2, none⟩ (.slice AA (m + 1) cA)) (wA.setCell ⟨wo.heap.size + 1, 2, none⟩ (.slice AA (m + 1) cA)).heap.size 90) (.slice AA (m + 1) cA) (p.files.take (m + 1)) := by
            rw [htm.out]
            refine ListOwn.snoc (cs := #[.string f.err, .string f.perr, .string f.name, .string f.syn, .string f.pkg, .bool f.ign, .bool f.bin, .string f.cgo, .string f.con, .slice Ac f.cons.length cc, .slice Ai f.imps.length ci, .slice Ae f.embs.length ce, .slice Ad f.dirs.length cd].toList) (css := css) ?_ (by rw [o2, htl]) o3 (fun i cs x a b => ((O4.out i cs x a b).same hS0 (by decide) (by decide)).more (by omega)) rfl ((hft2.out.same hS1 (by decide) (by decide)).more (by omega))
            rw [htl]
            exact hownA.kept (grownBy_setCell wA ⟨wo.heap.size + 1, 2, none⟩ _) (.inr hneA)
          have hBF : Blk (wA.setCell ⟨wo.heap.size + 1, 2, none⟩ (.slice AA (m + 1) cA)) (wo.heap.size + 1) 52 #[.string p.err, .string p.dir, .slice AA (m + 1) cA] := hbA.set_ 2 _
          have hFF : Below wo.heap.size wo (wA.setCell ⟨wo.heap.size + 1, 2, none⟩ (.slice AA (m + 1) cA)) := (((hFx.trans (HXG.out.mono hszx)).alloc (by omega) _).grown hgA (by simp; omega) (fun j hj => (O1.out.lt j hj).1)).setCell (by simp) _
          have HL2 := Lib.hid hL
          have HBF := Lib.hid hBF
          have HFF := Lib.hid hFF
          clear hL hBF hFF hS1 hS0 hszF hneA hownA hgA
          refine hK.out _ _ (.inr hHeld4) ?_
          clear hK K
          (try go_frame)
          clear hHeld3
          refine wpAnyM_take (i := 6) (v := (.pointer (some ⟨wo.heap.size + 1, 2, none⟩))) rfl (by kernel_rfl) (by kernel_rfl) (by kernel_rfl) (by kernel_rfl) (by decide) (fun _ _ _ h => h) (by assumption) (Or.inl ⟨by rfl, ?_⟩) ?_
          · intro W hSW
            (try dsimp only at hSW)
            go_simp
          (try go_frame)
          refine wpAnyM_only (i := 7) rfl (by kernel_rfl) (fun K hK => ?_)
          have hcA := hHeld4.2
          go_simp
          refine hK.out _ _ (.inl rfl) ?_
          clear hK K
          (try go_frame)
          refine wpAnyM_done (by kernel_rfl) (NoPanic.normal ?_)
          clear hHeld4 hcA hfA
          go_wp2_with fail
          go_roundw
          case rel => exact ⟨m + 1, by omega, by go_num, HFF.out, _, HBF.out, HL2.out⟩
          case measure => simp [intOf]; omega
        · have hml : m = p.files.length := by omega
          subst hml
          rw [List.take_length] at hox
          obtain ⟨Ax, cx, rfl⟩ : ∃ A c, vx = .slice A p.files.length c := ListAt.form hox.t.at_
          have e0 : wx.cell? ⟨wo.heap.size + 1, 0, none⟩ = some (.string p.err) := hbx.cell 0
          have e1 : wx.cell? ⟨wo.heap.size + 1, 1, none⟩ = some (.string p.dir) := hbx.cell 1
          have e2 : wx.cell? ⟨wo.heap.size + 1, 2, none⟩ = some (.slice Ax p.files.length cx) := hbx.cell 2
          obtain ⟨css, o1, o2, o3, o4⟩ := HOW.out
          have htl : (ps.take k).length = k := List.length_take_of_le (by omega)
          rw [htl] at o1 o2
          have hoW := (own_below o1 hFx).alloc (.cells #[.string p.err, .string p.dir, .slice Ax p.files.length cx] 52)
          have hnew := cells_new wx #[.string p.err, .string p.dir, .slice Ax p.files.length cx] 52 wx.heap.size rfl
          have O4 := Lib.hid o4
          have HOX := Lib.hid hox
          clear hbx o1 o4 hox
          go_wp2_with (at_builtin; refine wpList_append_own_at _ rfl (.tmp 36) (.tmp 38) _ rfl w.heap.size 52 i1 _ 3 56 Tryz.underlying45 hi1 hz3 hz4 hz5 rfl (by decide) _ k css.flatten rfl hoW ⟨wx.heap.size, 0, none⟩ 1 1 [.string p.err, .string p.dir, .slice Ax p.files.length cx] rfl rfl hnew (by intro u hu; simp only [List.mem_cons, List.not_mem_nil, or_false] at hu; rcases hu with rfl | rfl | rfl <;> rfl) (by unfold maxLen; omega) (by omega) (by simp; omega) ?_; intro v4 w4 hown4 hgrow4 _ hat4)
          have hS1 : SameOn [52] wx.heap.size wx w4 := (SameOn.below ((Below.refl wx.heap.size wx).alloc (Nat.le_refl _) _) (Nat.le_refl _)).trans (SameOn.own hoW hgrow4 (by decide))
          have hS0 : SameOn [52] wo.heap.size wo w4 := (SameOn.below hFx (Nat.le_refl _)).trans (hS1.less hszx)
          have hsz4 : wx.heap.size ≤ w4.heap.size := by have := hgrow4.size; simp at this; omega
          have hL : ListOwn w4 w.heap.size 52 3 (PkgT w4 w4.heap.size 56 90) v4 (ps.take (k + 1)) := by
            rw [hts.out]
            refine ListOwn.snoc (cs := [.string p.err, .string p.dir, .slice Ax p.files.length cx]) (css := css) ?_ (by rw [o2, htl]) o3 (fun i cs x a b => ((O4.out i cs x a b).same hS0 (by decide) (by decide) (by decide)).more (by omega)) rfl ?_
            · rw [htl]
              exact hown4
            · exact ⟨_, rfl, ((HOX.out.t.same hS1 (by decide)).more hsz4).imp fun _ _ h => (h.same hS1 (by decide) (by decide)).more hsz4⟩
          have hFF : Below w.heap.size w w4 := ((hF.trans (hFx.mono hsz)).alloc (by omega) _).grown hgrow4 (by simp; omega) (fun j hj => (hoW.lt j hj).1)
          have HL2 := Lib.hid hL
          have HFF := Lib.hid hFF
          clear hL hFF hS1 hS0 hown4 hgrow4 hat4 hoW hnew e0 e1 e2
          go_roundw
          case rel => exact ⟨k + 1, by omega, by go_num, HL2.out, HFF.out⟩
          case measure => simp [intOf]; omega
    · have hkl : k = ps.length := by omega
      subst hkl
      rw [List.take_length] at hown
      have C := HZ'.out u3 wr (hown.t.at_.imp fun _ _ h => h.r)
      clear hown
      go_wp2_with fail
      refine C.mono ?_
      rintro e w2 ⟨v', rfl, ho2, hb2⟩
      have HO2 := Lib.hid ho2
      clear ho2 C
      go_wp2_with fail
      go_ret
      exact ⟨_, rfl, own_less HO2.out hsz, hF.trans (hb2.mono hsz)⟩
end Go.Proofs.YtanfimeajalffaaGreatDoor
