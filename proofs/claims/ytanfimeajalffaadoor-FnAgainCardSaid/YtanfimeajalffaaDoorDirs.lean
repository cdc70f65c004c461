/-
  A file's lists with places, read: imports, embeds, directives. Condition: what stands there (FileIs).
-/
import Derived.Test.YtanfimeajalffaaDoorCons
import Derived.Test.YtanfimeajalffaaDoorRdPos
namespace Go.Proofs.YtanfimeajalffaaDoor
open Go.RowKit

theorem rimp_info : (Tryd.prog.info? 82).map (fun i => (i.zero, i.size, i.bytes)) = some (some (.agg #[.string ByteArray.empty, .string ByteArray.empty, .int .i64 0, .int .i64 0, .int .i64 0]), 5, 56) := by kernel_rfl
theorem emb_info : (Tryd.prog.info? 84).map (fun i => (i.zero, i.size, i.bytes)) = some (some (.agg #[.string ByteArray.empty, .string ByteArray.empty, .int .i64 0, .int .i64 0, .int .i64 0]), 5, 56) := by kernel_rfl

theorem Blk.sets_far {g b : Nat} {t : TypeId} {cs : Array Value} (hne : g ≠ b) : ∀ (us : List Value) (o : Nat) (w : World), Blk w g t cs → Blk (w.setCells b o us) g t cs
  | [], _, _, h => h
  | u :: us, o, w, h => Blk.sets_far hne us (o + 1) _ (h.far (by exact hne) u)
theorem RdIn.sets {w0 w : World} {gr gd p g : Nat} {b t : List UInt8} (h : RdIn w0 w gr gd p b t) (hne : gr ≠ g) (hg : w0.heap.size ≤ g) (o : Nat) (us : List Value) : RdIn w0 (w.setCells g o us) gr gd p b t :=
  ⟨h.dec, below_setCells hg us o w h.bel, h.own, Blk.sets_far hne us o w h.at_⟩

/-- What a round of a list with places reads. -/
def DirAt (b t : List UInt8) (q : Nat) (d : DirD) : Prop := ItIs b t q (.s d.text) ∧ ItIs b t (q + 4) (.s d.at_.fn) ∧ ItIs b t (q + 4 + 4) (.n d.at_.o.toNat) ∧ ItIs b t (q + 4 + 4 + 4) (.n d.at_.l.toNat) ∧ ItIs b t (q + 4 + 4 + 4 + 4) (.n d.at_.c.toNat)
theorem DirsIs.at_ {b t : List UInt8} {p : Nat} {ds : List DirD} (h : DirsIs b t p ds) (k : Nat) (hk : k < ds.length) : DirAt b t (p + 4 + 20 * k) ds[k] := by
  have h0 := h.2 k _ (List.getElem?_eq_getElem hk)
  exact ⟨h0 0 _ rfl, h0 1 _ rfl, h0 2 _ rfl, h0 3 _ rfl, h0 4 _ rfl⟩

set_option maxHeartbeats 2000000 in
set_option maxRecDepth 100000 in
theorem sf_imports (gs gd p : Nat) (f : FileD) (b t : List UInt8) (w : World) (hs : SfAt w gs gd p) (hd : DecAt w gd b t) (h : FileIs b t p f) (hf : f.Ok) :
    Calls Tryd.prog 59 #[.pointer (some ⟨gs, 0, none⟩)] w fun e w' => ∃ A c, e = .returned (.slice A f.imps.length c) ∧ w'.ownsRow w.heap.size 82 5 (.slice A f.imps.length c) f.imps.length (f.imps.flatMap dirCells) ∧ Below w.heap.size w w' := by
  obtain ⟨i0, hi0, hz0, hz1, hz2⟩ := info_parts' rimp_info
  have hm := hd.len.1
  have hc := hf.impsL
  have hds := h.2.2.1
  have hok := hf.imps
  have C0 := Lib.hid (sf_imp gs gd p f b t w hs hd h hf)
  have c0 : w.cell? ⟨gs, 0, none⟩ = some (.pointer (some ⟨gd, 0, none⟩)) := Blk.cell hs 0
  generalize p + 40 + 4 * f.cons.length = q at hds C0
  have hl := hds.1.lt
  have CI := Lib.hid (fun (W : World) (gr : Nat) (hr : RdIn w W gr gd q b t) => rd_int w gr gd q f.imps.length b t W hr hds.1)
  clear hs h hf
  generalize f.imps = ds at *
  have CS := Lib.hid (fun (W : World) (gr k : Nat) (hk : k < ds.length) (hr : RdIn w W gr gd (q + 4 + 20 * k) b t) => rd_string w gr gd (q + 4 + 20 * k) ds[k].text b t W hr (hds.at_ k hk).1)
  have CP := Lib.hid (fun (W : World) (gr k : Nat) (hk : k < ds.length) (hgw : gr < W.heap.size) (hr : RdIn w W gr gd (q + 4 + 20 * k + 4) b t) => rd_pos w gr gd (q + 4 + 20 * k + 4) ds[k].at_ b t W hr hgw (hds.at_ k hk).2.1 (hds.at_ k hk).2.2.1 (hds.at_ k hk).2.2.2.1 (hds.at_ k hk).2.2.2.2 (hok _ (List.getElem_mem hk)).2)
  have HMK := Lib.hid (fun (W : World) => run_make (P := Tryd.prog) W 73 82 i0 _ Tryd.underlying73 hi0 hz0 .i64 .i64 (ds.length : Int) (ds.length : Int) (by omega) (Int.le_refl _) (by rw [hz2]; omega) (by omega))
  have HD := Lib.hid hd
  clear hd hds hok
  rw [hz1, Int.toNat_natCast] at HMK
  have hmk := HMK.out
  clear HMK
  go_enter Tryd.func59, Tryd.ntmps59
  go_wp2_with fail
  refine C0.out.mono ?_
  rintro e w1 ⟨rfl, k, rfl⟩
  go_wp2_with fail
  refine (readAt_any gd q _).mono ?_
  rintro e w1 ⟨rfl, hw1⟩
  obtain ⟨gr, hgr⟩ : ∃ gr, gr = w.heap.size := ⟨_, rfl⟩
  rw [show (w.drewN k).heap.size = gr from hgr.symm]
  have R1 : RdIn w w1 gr gd q b t := by
    rw [hw1, hgr]
    exact ⟨HD.out, (below_dn (Below.refl _ _) k).alloc (Nat.le_refl _) _, Nat.le_refl _, Blk.new (w.drewN k) _ _⟩
  have hgr1 : gr < w1.heap.size := by rw [hw1, hgr]; simp
  have HR1 := Lib.hid R1
  have HGR := Lib.hid hgr
  clear hw1 R1 hgr
  go_wp2_with fail
  refine (CI.out _ _ HR1.out).mono ?_
  rintro e w2 ⟨rfl, d2⟩
  have R2 := Lib.hid (HR1.out.step d2)
  have hgr2 : gr < w2.heap.size := Nat.lt_of_lt_of_le hgr1 d2.2.size
  clear d2 HR1 hgr1
  go_wp2_with fail
  have hF0 : Fills (w2.alloc (.cells (madeCells #[.string ByteArray.empty, .string ByteArray.empty, .int .i64 0, .int .i64 0, .int .i64 0] (ds.length * 5)) 82)) w2.heap.size 82 (ds.length * 5) [] := by
    have := Fills.made w2 (madeCells #[.string ByteArray.empty, .string ByteArray.empty, .int .i64 0, .int .i64 0, .int .i64 0] (ds.length * 5)) 82
    rw [size_madeCells] at this
    exact this
  have HF0 := Lib.hid hF0
  clear hF0 hmk c0 C0 CI
  go_loopw [7] (fun i wr => ∃ k : Nat, k ≤ ds.length ∧ i = .int .i64 k ∧ RdIn w wr gr gd (q + 4 + 20 * k) b t ∧ Fills wr w2.heap.size 82 (ds.length * 5) ((ds.take k).flatMap dirCells)) (fun i _ => ds.length - (intOf i).toNat)
  case atStart => exact ⟨0, Nat.zero_le _, rfl, R2.out.alloc _, HF0.out⟩
  case round =>
    clear HF0
    obtain ⟨k, hk, rfl, hR, hF⟩ := hrel
    by_cases hlt : k < ds.length
    · have hgr3 : gr < wr.heap.size := Nat.lt_trans hgr2 hF.lt
      have C1 := Lib.hid (CS.out wr gr k hlt hR)
      have C2 := Lib.hid (fun W (d : Rdd gr gd (q + 4 + 20 * k + 4) wr W) => CP.out W gr k hlt (Nat.lt_of_lt_of_le hgr3 d.2.size) (hR.step d))
      have hsn := flat_snoc ds k hlt
      have hkz : (0 : Int) ≤ (k : Int) := by omega
      have hkl : (k : Int) < (ds.length : Int) := by omega
      have hxl : ((ds.take k).flatMap dirCells).length = k * 5 := by rw [flat_len, List.length_take, Nat.min_eq_left (by omega)]
      have HSN := Lib.hid hsn
      have HXL := Lib.hid hxl
      have HF := Lib.hid hF
      have HR := Lib.hid hR
      clear hsn hxl hF hR
      generalize ds[k] = d at *
      obtain ⟨x, ⟨fn, po, pl, pc⟩⟩ := d
      simp only [posCells] at C2
      go_wp2_with fail
      refine C1.out.mono ?_
      rintro e w3 ⟨rfl, d3⟩
      have D3 := Lib.hid d3
      clear d3
      go_wp2_with fail
      refine (C2.out _ D3.out).mono ?_
      rintro e w4 ⟨rfl, d4⟩
      have d5 := D3.out.trans d4
      have hF4 := HF.out.grown d5.2 (fun e => by injection e with e; omega)
      have hR4 := (HR.out.step d5).place (show q + 4 + 20 * k + 4 + 16 = q + 4 + 20 * (k + 1) by omega)
      have hth := hF4.there (k * 5) 5 (by omega)
      have HF4 := Lib.hid hF4
      have HR4 := Lib.hid hR4
      have HTH := Lib.hid hth
      clear d4 d5 D3 hF4 hR4 hth HF HR
      go_wp2_with (refine wpList_store_mid (op := ⟨none, _, _, _, _, _⟩) rfl 82 (.tmp 32) (.tmp 31) rfl w2.heap.size (k * 5) #[.string x, .string fn, .int .i64 po, .int .i64 pl, .int .i64 pc] rfl rfl HTH.out (by kernel_rfl) (all_oneCell_toArray (dirs_one ⟨x, ⟨fn, po, pl, pc⟩⟩)) ?_)
      have hp := Fills.puts (dirCells ⟨x, ⟨fn, po, pl, pc⟩⟩) _ _ HF4.out (by rw [HXL.out]; show k * 5 + 5 ≤ _; omega)
      rw [HXL.out, ← HSN.out] at hp
      have HP := Lib.hid hp
      clear hp
      go_roundw
      case rel => exact ⟨k + 1, by omega, by go_num, HR4.out.sets (by omega) (by have := HGR.out; omega) _ _, HP.out⟩
      case measure => simp [intOf]; omega
    · have hkl : k = ds.length := by omega
      subst hkl
      rw [List.take_length] at hF
      have HO := Lib.hid (hF.own (base := w.heap.size) (by rw [flat_len]) (by have := HGR.out; omega) (by unfold maxLen; omega))
      have HB := Lib.hid hR.bel
      clear hF hR
      go_wp2_with fail
      go_ret
      exact ⟨_, _, rfl, HO.out, HB.out⟩
set_option maxHeartbeats 2000000 in
set_option maxRecDepth 100000 in
theorem sf_embeds (gs gd p : Nat) (f : FileD) (b t : List UInt8) (w : World) (hs : SfAt w gs gd p) (hd : DecAt w gd b t) (h : FileIs b t p f) (hf : f.Ok) :
    Calls Tryd.prog 60 #[.pointer (some ⟨gs, 0, none⟩)] w fun e w' => ∃ A c, e = .returned (.slice A f.embs.length c) ∧ w'.ownsRow w.heap.size 84 5 (.slice A f.embs.length c) f.embs.length (f.embs.flatMap dirCells) ∧ Below w.heap.size w w' := by
  obtain ⟨i0, hi0, hz0, hz1, hz2⟩ := info_parts' emb_info
  have hm := hd.len.1
  have hc := hf.embsL
  have hds := h.2.2.2.1
  have hok := hf.embs
  have C0 := Lib.hid (sf_emb gs gd p f b t w hs hd h hf)
  have c0 : w.cell? ⟨gs, 0, none⟩ = some (.pointer (some ⟨gd, 0, none⟩)) := Blk.cell hs 0
  generalize p + 44 + 4 * f.cons.length + 20 * f.imps.length = q at hds C0
  have hl := hds.1.lt
  have CI := Lib.hid (fun (W : World) (gr : Nat) (hr : RdIn w W gr gd q b t) => rd_int w gr gd q f.embs.length b t W hr hds.1)
  clear hs h hf
  generalize f.embs = ds at *
  have CS := Lib.hid (fun (W : World) (gr k : Nat) (hk : k < ds.length) (hr : RdIn w W gr gd (q + 4 + 20 * k) b t) => rd_string w gr gd (q + 4 + 20 * k) ds[k].text b t W hr (hds.at_ k hk).1)
  have CP := Lib.hid (fun (W : World) (gr k : Nat) (hk : k < ds.length) (hgw : gr < W.heap.size) (hr : RdIn w W gr gd (q + 4 + 20 * k + 4) b t) => rd_pos w gr gd (q + 4 + 20 * k + 4) ds[k].at_ b t W hr hgw (hds.at_ k hk).2.1 (hds.at_ k hk).2.2.1 (hds.at_ k hk).2.2.2.1 (hds.at_ k hk).2.2.2.2 (hok _ (List.getElem_mem hk)).2)
  have HMK := Lib.hid (fun (W : World) => run_make (P := Tryd.prog) W 74 84 i0 _ Tryd.underlying74 hi0 hz0 .i64 .i64 (ds.length : Int) (ds.length : Int) (by omega) (Int.le_refl _) (by rw [hz2]; omega) (by omega))
  have HD := Lib.hid hd
  clear hd hds hok
  rw [hz1, Int.toNat_natCast] at HMK
  have hmk := HMK.out
  clear HMK
  go_enter Tryd.func60, Tryd.ntmps60
  go_wp2_with fail
  refine C0.out.mono ?_
  rintro e w1 ⟨rfl, k, rfl⟩
  go_wp2_with fail
  refine (readAt_any gd q _).mono ?_
  rintro e w1 ⟨rfl, hw1⟩
  obtain ⟨gr, hgr⟩ : ∃ gr, gr = w.heap.size := ⟨_, rfl⟩
  rw [show (w.drewN k).heap.size = gr from hgr.symm]
  have R1 : RdIn w w1 gr gd q b t := by
    rw [hw1, hgr]
    exact ⟨HD.out, (below_dn (Below.refl _ _) k).alloc (Nat.le_refl _) _, Nat.le_refl _, Blk.new (w.drewN k) _ _⟩
  have hgr1 : gr < w1.heap.size := by rw [hw1, hgr]; simp
  have HR1 := Lib.hid R1
  have HGR := Lib.hid hgr
  clear hw1 R1 hgr
  go_wp2_with fail
  refine (CI.out _ _ HR1.out).mono ?_
  rintro e w2 ⟨rfl, d2⟩
  have R2 := Lib.hid (HR1.out.step d2)
  have hgr2 : gr < w2.heap.size := Nat.lt_of_lt_of_le hgr1 d2.2.size
  clear d2 HR1 hgr1
  go_wp2_with fail
  have hF0 : Fills (w2.alloc (.cells (madeCells #[.string ByteArray.empty, .string ByteArray.empty, .int .i64 0, .int .i64 0, .int .i64 0] (ds.length * 5)) 84)) w2.heap.size 84 (ds.length * 5) [] := by
    have := Fills.made w2 (madeCells #[.string ByteArray.empty, .string ByteArray.empty, .int .i64 0, .int .i64 0, .int .i64 0] (ds.length * 5)) 84
    rw [size_madeCells] at this
    exact this
  have HF0 := Lib.hid hF0
  clear hF0 hmk c0 C0 CI
  go_loopw [7, 22] (fun _ i wr => ∃ k : Nat, k ≤ ds.length ∧ i = .int .i64 k ∧ RdIn w wr gr gd (q + 4 + 20 * k) b t ∧ Fills wr w2.heap.size 84 (ds.length * 5) ((ds.take k).flatMap dirCells)) (fun _ i _ => ds.length - (intOf i).toNat)
  case atStart => exact ⟨0, Nat.zero_le _, rfl, R2.out.alloc _, HF0.out⟩
  case round =>
    clear HF0
    obtain ⟨k, hk, rfl, hR, hF⟩ := hrel
    by_cases hlt : k < ds.length
    · have hgr3 : gr < wr.heap.size := Nat.lt_trans hgr2 hF.lt
      have C1 := Lib.hid (CS.out wr gr k hlt hR)
      have C2 := Lib.hid (fun W (d : Rdd gr gd (q + 4 + 20 * k + 4) wr W) => CP.out W gr k hlt (Nat.lt_of_lt_of_le hgr3 d.2.size) (hR.step d))
      have hsn := flat_snoc ds k hlt
      have hkz : (0 : Int) ≤ (k : Int) := by omega
      have hkl : (k : Int) < (ds.length : Int) := by omega
      have hxl : ((ds.take k).flatMap dirCells).length = k * 5 := by rw [flat_len, List.length_take, Nat.min_eq_left (by omega)]
      have HSN := Lib.hid hsn
      have HXL := Lib.hid hxl
      have HF := Lib.hid hF
      have HR := Lib.hid hR
      clear hsn hxl hF hR
      generalize ds[k] = d at *
      obtain ⟨x, ⟨fn, po, pl, pc⟩⟩ := d
      simp only [posCells] at C2
      go_wp2_with fail
      refine C1.out.mono ?_
      rintro e w3 ⟨rfl, d3⟩
      have D3 := Lib.hid d3
      clear d3
      go_wp2_with fail
      refine (C2.out _ D3.out).mono ?_
      rintro e w4 ⟨rfl, d4⟩
      have d5 := D3.out.trans d4
      have hF4 := HF.out.grown d5.2 (fun e => by injection e with e; omega)
      have hR4 := (HR.out.step d5).place (show q + 4 + 20 * k + 4 + 16 = q + 4 + 20 * (k + 1) by omega)
      have hth := hF4.there (k * 5) 5 (by omega)
      have HF4 := Lib.hid hF4
      have HR4 := Lib.hid hR4
      have HTH := Lib.hid hth
      clear d4 d5 D3 hF4 hR4 hth HF HR
      go_wp2_with (refine wpList_store_mid (op := ⟨none, _, _, _, _, _⟩) rfl 84 (.tmp 32) (.tmp 31) rfl w2.heap.size (k * 5) #[.string x, .string fn, .int .i64 po, .int .i64 pl, .int .i64 pc] rfl rfl HTH.out (by kernel_rfl) (all_oneCell_toArray (dirs_one ⟨x, ⟨fn, po, pl, pc⟩⟩)) ?_)
      have hp := Fills.puts (dirCells ⟨x, ⟨fn, po, pl, pc⟩⟩) _ _ HF4.out (by rw [HXL.out]; show k * 5 + 5 ≤ _; omega)
      rw [HXL.out, ← HSN.out] at hp
      have HP := Lib.hid hp
      clear hp
      go_roundw
      case rel => exact ⟨k + 1, by omega, by go_num, HR4.out.sets (by omega) (by have := HGR.out; omega) _ _, HP.out⟩
      case measure => simp [intOf]; omega
    · have hkl : k = ds.length := by omega
      subst hkl
      rw [List.take_length] at hF
      have HO := Lib.hid (hF.own (base := w.heap.size) (by rw [flat_len]) (by have := HGR.out; omega) (by unfold maxLen; omega))
      have HB := Lib.hid hR.bel
      clear hF hR
      go_wp2_with fail
      go_ret
      exact ⟨_, _, rfl, HO.out, HB.out⟩
set_option maxHeartbeats 2000000 in
set_option maxRecDepth 100000 in
theorem sf_directives (gs gd p : Nat) (f : FileD) (b t : List UInt8) (w : World) (hs : SfAt w gs gd p) (hd : DecAt w gd b t) (h : FileIs b t p f) (hf : f.Ok) :
    Calls Tryd.prog 58 #[.pointer (some ⟨gs, 0, none⟩)] w fun e w' => ∃ A c, e = .returned (.slice A f.dirs.length c) ∧ w'.ownsRow w.heap.size 80 5 (.slice A f.dirs.length c) f.dirs.length (f.dirs.flatMap dirCells) ∧ Below w.heap.size w w' := by
  obtain ⟨i0, hi0, hz0, hz1, hz2⟩ := info_parts' dir_info
  have hm := hd.len.1
  have hc := hf.dirsL
  have hds := h.2.2.2.2
  have hok := hf.dirs
  have C0 := Lib.hid (sf_dir gs gd p f b t w hs hd h hf)
  have c0 : w.cell? ⟨gs, 0, none⟩ = some (.pointer (some ⟨gd, 0, none⟩)) := Blk.cell hs 0
  generalize p + 48 + 4 * f.cons.length + 20 * f.imps.length + 20 * f.embs.length = q at hds C0
  have hl := hds.1.lt
  have CI := Lib.hid (fun (W : World) (gr : Nat) (hr : RdIn w W gr gd q b t) => rd_int w gr gd q f.dirs.length b t W hr hds.1)
  clear hs h hf
  generalize f.dirs = ds at *
  have CS := Lib.hid (fun (W : World) (gr k : Nat) (hk : k < ds.length) (hr : RdIn w W gr gd (q + 4 + 20 * k) b t) => rd_string w gr gd (q + 4 + 20 * k) ds[k].text b t W hr (hds.at_ k hk).1)
  have CP := Lib.hid (fun (W : World) (gr k : Nat) (hk : k < ds.length) (hgw : gr < W.heap.size) (hr : RdIn w W gr gd (q + 4 + 20 * k + 4) b t) => rd_pos w gr gd (q + 4 + 20 * k + 4) ds[k].at_ b t W hr hgw (hds.at_ k hk).2.1 (hds.at_ k hk).2.2.1 (hds.at_ k hk).2.2.2.1 (hds.at_ k hk).2.2.2.2 (hok _ (List.getElem_mem hk)).2)
  have HMK := Lib.hid (fun (W : World) => run_make (P := Tryd.prog) W 51 80 i0 _ Tryd.underlying51 hi0 hz0 .i64 .i64 (ds.length : Int) (ds.length : Int) (by omega) (Int.le_refl _) (by rw [hz2]; omega) (by omega))
  have HD := Lib.hid hd
  clear hd hds hok
  rw [hz1, Int.toNat_natCast] at HMK
  have hmk := HMK.out
  clear HMK
  go_enter Tryd.func58, Tryd.ntmps58
  go_wp2_with fail
  refine C0.out.mono ?_
  rintro e w1 ⟨rfl, k, rfl⟩
  go_wp2_with fail
  refine (readAt_any gd q _).mono ?_
  rintro e w1 ⟨rfl, hw1⟩
  obtain ⟨gr, hgr⟩ : ∃ gr, gr = w.heap.size := ⟨_, rfl⟩
  rw [show (w.drewN k).heap.size = gr from hgr.symm]
  have R1 : RdIn w w1 gr gd q b t := by
    rw [hw1, hgr]
    exact ⟨HD.out, (below_dn (Below.refl _ _) k).alloc (Nat.le_refl _) _, Nat.le_refl _, Blk.new (w.drewN k) _ _⟩
  have hgr1 : gr < w1.heap.size := by rw [hw1, hgr]; simp
  have HR1 := Lib.hid R1
  have HGR := Lib.hid hgr
  clear hw1 R1 hgr
  go_wp2_with fail
  refine (CI.out _ _ HR1.out).mono ?_
  rintro e w2 ⟨rfl, d2⟩
  have R2 := Lib.hid (HR1.out.step d2)
  have hgr2 : gr < w2.heap.size := Nat.lt_of_lt_of_le hgr1 d2.2.size
  clear d2 HR1 hgr1
  go_wp2_with fail
  have hF0 : Fills (w2.alloc (.cells (madeCells #[.string ByteArray.empty, .string ByteArray.empty, .int .i64 0, .int .i64 0, .int .i64 0] (ds.length * 5)) 80)) w2.heap.size 80 (ds.length * 5) [] := by
    have := Fills.made w2 (madeCells #[.string ByteArray.empty, .string ByteArray.empty, .int .i64 0, .int .i64 0, .int .i64 0] (ds.length * 5)) 80
    rw [size_madeCells] at this
    exact this
  have HF0 := Lib.hid hF0
  clear hF0 hmk c0 C0 CI
  go_loopw [7, 22] (fun _ i wr => ∃ k : Nat, k ≤ ds.length ∧ i = .int .i64 k ∧ RdIn w wr gr gd (q + 4 + 20 * k) b t ∧ Fills wr w2.heap.size 80 (ds.length * 5) ((ds.take k).flatMap dirCells)) (fun _ i _ => ds.length - (intOf i).toNat)
  case atStart => exact ⟨0, Nat.zero_le _, rfl, R2.out.alloc _, HF0.out⟩
  case round =>
    clear HF0
    obtain ⟨k, hk, rfl, hR, hF⟩ := hrel
    by_cases hlt : k < ds.length
    · have hgr3 : gr < wr.heap.size := Nat.lt_trans hgr2 hF.lt
      have C1 := Lib.hid (CS.out wr gr k hlt hR)
      have C2 := Lib.hid (fun W (d : Rdd gr gd (q + 4 + 20 * k + 4) wr W) => CP.out W gr k hlt (Nat.lt_of_lt_of_le hgr3 d.2.size) (hR.step d))
      have hsn := flat_snoc ds k hlt
      have hkz : (0 : Int) ≤ (k : Int) := by omega
      have hkl : (k : Int) < (ds.length : Int) := by omega
      have hxl : ((ds.take k).flatMap dirCells).length = k * 5 := by rw [flat_len, List.length_take, Nat.min_eq_left (by omega)]
      have HSN := Lib.hid hsn
      have HXL := Lib.hid hxl
      have HF := Lib.hid hF
      have HR := Lib.hid hR
      clear hsn hxl hF hR
      generalize ds[k] = d at *
      obtain ⟨x, ⟨fn, po, pl, pc⟩⟩ := d
      simp only [posCells] at C2
      go_wp2_with fail
      refine C1.out.mono ?_
      rintro e w3 ⟨rfl, d3⟩
      have D3 := Lib.hid d3
      clear d3
      go_wp2_with fail
      refine (C2.out _ D3.out).mono ?_
      rintro e w4 ⟨rfl, d4⟩
      have d5 := D3.out.trans d4
      have hF4 := HF.out.grown d5.2 (fun e => by injection e with e; omega)
      have hR4 := (HR.out.step d5).place (show q + 4 + 20 * k + 4 + 16 = q + 4 + 20 * (k + 1) by omega)
      have hth := hF4.there (k * 5) 5 (by omega)
      have HF4 := Lib.hid hF4
      have HR4 := Lib.hid hR4
      have HTH := Lib.hid hth
      clear d4 d5 D3 hF4 hR4 hth HF HR
      go_wp2_with (refine wpList_store_mid (op := ⟨none, _, _, _, _, _⟩) rfl 80 (.tmp 32) (.tmp 31) rfl w2.heap.size (k * 5) #[.string x, .string fn, .int .i64 po, .int .i64 pl, .int .i64 pc] rfl rfl HTH.out (by kernel_rfl) (all_oneCell_toArray (dirs_one ⟨x, ⟨fn, po, pl, pc⟩⟩)) ?_)
      have hp := Fills.puts (dirCells ⟨x, ⟨fn, po, pl, pc⟩⟩) _ _ HF4.out (by rw [HXL.out]; show k * 5 + 5 ≤ _; omega)
      rw [HXL.out, ← HSN.out] at hp
      have HP := Lib.hid hp
      clear hp
      go_roundw
      case rel => exact ⟨k + 1, by omega, by go_num, HR4.out.sets (by omega) (by have := HGR.out; omega) _ _, HP.out⟩
      case measure => simp [intOf]; omega
    · have hkl : k = ds.length := by omega
      subst hkl
      rw [List.take_length] at hF
      have HO := Lib.hid (hF.own (base := w.heap.size) (by rw [flat_len]) (by have := HGR.out; omega) (by unfold maxLen; omega))
      have HB := Lib.hid hR.bel
      clear hF hR
      go_wp2_with fail
      go_ret
      exact ⟨_, _, rfl, HO.out, HB.out⟩
end Go.Proofs.YtanfimeajalffaaDoor
