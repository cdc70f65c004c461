/-
  The contracts of zzFits1 to zzFits8: each returns, and leaves what lay there. Conditions: the premises of each theorem.
-/
import Derived.Test.YtanfimeajalffaaDoorTyped
namespace Go.Proofs.YtanfimeajalffaaDoor
open Go.RowKit

/-- A yes or a no, and what lay there lies there still. -/
def SomeBool (w : World) (e : Ending) (w' : World) : Prop := ∃ b, e = .returned (.bool b) ∧ Below w.heap.size w w'

theorem fits8_any (p : PosD) (w : World) : Calls Tryd.prog 100 #[.agg #[.string p.fn, .int .i64 p.o, .int .i64 p.l, .int .i64 p.c]] w (SomeBool w) := by
  go_enter Tryd.func100, Tryd.ntmps100
  go_wp2
  all_goals (go_ret; exact ⟨_, rfl, (Below.refl _ _).alloc (Nat.le_refl _) _⟩)

theorem fits7_any (d : DirD) (w : World) : Calls Tryd.prog 84 #[.agg (dirCells d).toArray] w (SomeBool w) := by
  have HC := Lib.hid (fun W => fits8_any d.at_ W)
  unfold dirCells
  go_enter Tryd.func84, Tryd.ntmps84
  go_wp2_with (go_at_call 100; refine (HC.out _).mono ?_; rintro e w1 ⟨b, rfl, hb1⟩; have hb2 : Below w.heap.size w w1 := ((Below.refl _ _).alloc (Nat.le_refl _) _).trans (hb1.mono (by simp)))
  all_goals (go_ret; first | exact ⟨_, rfl, hb2⟩ | exact ⟨_, rfl, (Below.refl _ _).alloc (Nat.le_refl _) _⟩)

theorem fits6_any (B : Nat) (v : Value) (ds : List DirD) (w : World) (hB : B ≤ w.heap.size) (hl : ds.length ≤ 9223372036854775807) (hd : DirsAt w B v ds) : Calls Tryd.prog 67 #[v] w (SomeBool w) := by
  obtain ⟨A, c, rfl, hrd⟩ := hd
  have HRD := Lib.hid hrd
  clear hrd
  by_cases hbig : (2147483647 : Int) < (ds.length : Int)
  · go_enter Tryd.func67, Tryd.ntmps67
    go_wp2_with fail
    go_ret
    exact ⟨_, rfl, Below.refl _ _⟩
  · go_enter Tryd.func67, Tryd.ntmps67
    go_wp2_with fail
    go_loopw [4, 10] (fun _ i wr => ∃ k : Nat, k ≤ ds.length ∧ i = .int .i64 k ∧ Below w.heap.size w wr) (fun _ i _ => ds.length - (intOf i).toNat)
    case atStart => exact ⟨0, Nat.zero_le _, rfl, Below.refl _ _⟩
    case round =>
      obtain ⟨k, hk, rfl, hF⟩ := hrel
      have hsz := hF.size
      by_cases hlt : k < ds.length
      · obtain ⟨ag, ao, rfl, hab, hc0, hc1, hc2, hc3, hc4⟩ := DirsAt.cells (HRD.out.below (hF.mono hB)) k hlt
        generalize ds[k] = d at hc0 hc1 hc2 hc3 hc4
        have HC := Lib.hid (fun W => fits7_any d W)
        go_wp2_with fail
        refine (HC.out _).mono ?_
        rintro e w1 ⟨b, rfl, hb1⟩
        have hF2 : Below w.heap.size w w1 := (hF.alloc hsz _).trans (hb1.mono (by simp; omega))
        clear hc0 hc1 hc2 hc3 hc4 hb1
        cases b
        · go_wp2_with fail
          go_ret
          exact ⟨_, rfl, hF2⟩
        · go_wp2_with fail
          go_roundw
          case rel => exact ⟨k + 1, by omega, by go_num, hF2⟩
          case measure => simp [intOf]; omega
      · go_wp2_with fail
        go_ret
        exact ⟨_, rfl, hF⟩

theorem fits5_any (B : Nat) (v : Value) (ss : List ByteArray) (w : World) (hB : B ≤ w.heap.size) (hl : ss.length ≤ 9223372036854775807) (hd : StrsAt w B v ss) : Calls Tryd.prog 66 #[v] w (SomeBool w) := by
  obtain ⟨A, c, rfl, hrd⟩ := hd
  have HRD := Lib.hid hrd
  clear hrd
  by_cases hbig : (2147483647 : Int) < (ss.length : Int)
  · go_enter Tryd.func66, Tryd.ntmps66
    go_wp2_with fail
    go_ret
    exact ⟨_, rfl, Below.refl _ _⟩
  · go_enter Tryd.func66, Tryd.ntmps66
    go_wp2_with fail
    go_loopw [4, 10] (fun _ i wr => ∃ k : Nat, k ≤ ss.length ∧ i = .int .i64 k ∧ Below w.heap.size w wr) (fun _ i _ => ss.length - (intOf i).toNat)
    case atStart => exact ⟨0, Nat.zero_le _, rfl, Below.refl _ _⟩
    case round =>
      obtain ⟨k, hk, rfl, hF⟩ := hrel
      by_cases hlt : k < ss.length
      · obtain ⟨ag, ao, rfl, hab, hc0⟩ := StrsAt.cell (HRD.out.below (hF.mono hB)) k hlt
        generalize ss[k] = s at hc0
        go_wp2_with fail
        · go_ret
          exact ⟨_, rfl, hF⟩
        · go_roundw
          case rel => exact ⟨k + 1, by omega, by go_num, hF⟩
          case measure => simp [intOf]; omega
      · go_wp2_with fail
        go_ret
        exact ⟨_, rfl, hF⟩

/-- No list is longer than a number can tell. -/
structure FileD.Wide (f : FileD) : Prop where
  cons : f.cons.length ≤ 9223372036854775807
  imps : f.imps.length ≤ 9223372036854775807
  embs : f.embs.length ≤ 9223372036854775807
  dirs : f.dirs.length ≤ 9223372036854775807
structure PkgD.Wide (p : PkgD) : Prop where
  files : p.files.length ≤ 9223372036854775807
  each : ∀ f ∈ p.files, f.Wide

set_option maxHeartbeats 2000000 in
theorem fits4_any (B : Nat) (cs : List Value) (f : FileD) (w : World) (hB : B ≤ w.heap.size) (hw : f.Wide) (hr : FileR w B cs f) : Calls Tryd.prog 32 #[.agg cs.toArray] w (SomeBool w) := by
  obtain ⟨vc, vi, ve, vd, rfl, ⟨A1, c1, rfl, x1⟩, ⟨A2, c2, rfl, x2⟩, ⟨A3, c3, rfl, x3⟩, ⟨A4, c4, rfl, x4⟩⟩ := hr
  have F1 := Lib.hid (fun (W : World) (h : Below w.heap.size w W) => fits5_any B (.slice A1 f.cons.length c1) f.cons W (Nat.le_trans hB h.size) hw.cons ⟨A1, c1, rfl, x1.below (h.mono hB)⟩)
  have F2 := Lib.hid (fun (W : World) (h : Below w.heap.size w W) => fits6_any B (.slice A2 f.imps.length c2) f.imps W (Nat.le_trans hB h.size) hw.imps ⟨A2, c2, rfl, x2.below (h.mono hB)⟩)
  have F3 := Lib.hid (fun (W : World) (h : Below w.heap.size w W) => fits6_any B (.slice A3 f.embs.length c3) f.embs W (Nat.le_trans hB h.size) hw.embs ⟨A3, c3, rfl, x3.below (h.mono hB)⟩)
  have F4 := Lib.hid (fun (W : World) (h : Below w.heap.size w W) => fits6_any B (.slice A4 f.dirs.length c4) f.dirs W (Nat.le_trans hB h.size) hw.dirs ⟨A4, c4, rfl, x4.below (h.mono hB)⟩)
  have hb0 : Below w.heap.size w (w.alloc (.cells #[.string f.err, .string f.perr, .string f.name, .string f.syn, .string f.pkg, .bool f.ign, .bool f.bin, .string f.cgo, .string f.con, .slice A1 f.cons.length c1, .slice A2 f.imps.length c2, .slice A3 f.embs.length c3, .slice A4 f.dirs.length c4] 41)) := (Below.refl _ _).alloc (Nat.le_refl _) _
  have hk0 := Blk.new w 41 #[.string f.err, .string f.perr, .string f.name, .string f.syn, .string f.pkg, .bool f.ign, .bool f.bin, .string f.cgo, .string f.con, .slice A1 f.cons.length c1, .slice A2 f.imps.length c2, .slice A3 f.embs.length c3, .slice A4 f.dirs.length c4]
  have HK := Lib.hid hk0
  clear x1 x2 x3 x4 hw hk0
  unfold fileCells
  go_enter Tryd.func32, Tryd.ntmps32
  go_wp2_with (first
    | (go_at_call 67; refine (F4.out _ hb3).mono ?_; rintro e w4 ⟨b4, rfl, hc4⟩; have hb4 := hb3.trans (hc4.mono hb3.size))
    | (go_at_call 67; refine (F3.out _ hb2).mono ?_; rintro e w3 ⟨b3, rfl, hc3⟩; have hb3 := hb2.trans (hc3.mono hb2.size); have hk3 := hk2.below hc3 hk2.lt; have q12 := hk3.cell 12)
    | (go_at_call 67; refine (F2.out _ hb1).mono ?_; rintro e w2 ⟨b2, rfl, hc2⟩; have hb2 := hb1.trans (hc2.mono hb1.size); have hk2 := hk1.below hc2 hk1.lt; have q11 := hk2.cell 11)
    | (go_at_call 66; refine (F1.out _ hb0).mono ?_; rintro e w1 ⟨b1, rfl, hc1⟩; have hb1 := hb0.trans (hc1.mono hb0.size); have hk1 := HK.out.below hc1 HK.out.lt; have q10 := hk1.cell 10))
  all_goals (go_ret; first | exact ⟨_, rfl, hb4⟩ | exact ⟨_, rfl, hb3⟩ | exact ⟨_, rfl, hb2⟩ | exact ⟨_, rfl, hb1⟩ | exact ⟨_, rfl, hb0⟩)

set_option maxHeartbeats 1000000 in
theorem fits3_any (B : Nat) (v : Value) (fs : List FileD) (w : World) (hB : B ≤ w.heap.size) (hl : fs.length ≤ 9223372036854775807) (hw : ∀ f ∈ fs, f.Wide) (hd : ListAt w B 13 (FileR w B) v fs) : Calls Tryd.prog 21 #[v] w (SomeBool w) := by
  obtain ⟨A, c, rfl⟩ := hd.form
  have HV := Lib.hid hd
  have HW := Lib.hid hw
  clear hd hw
  by_cases hbig : (2147483647 : Int) < (fs.length : Int)
  · go_enter Tryd.func21, Tryd.ntmps21
    go_wp2_with fail
    go_ret
    exact ⟨_, rfl, Below.refl _ _⟩
  · go_enter Tryd.func21, Tryd.ntmps21
    go_wp2_with fail
    go_loopw [4, 10] (fun _ i wr => ∃ k : Nat, k ≤ fs.length ∧ i = .int .i64 k ∧ Below w.heap.size w wr) (fun _ i _ => fs.length - (intOf i).toNat)
    case atStart => exact ⟨0, Nat.zero_le _, rfl, Below.refl _ _⟩
    case round =>
      obtain ⟨k, hk, rfl, hF⟩ := hrel
      have hsz := hF.size
      by_cases hlt : k < fs.length
      · obtain ⟨gf, of, cs, rfl, hgf, _, hR, hcell⟩ := (ListAt.files_below HV.out (hF.mono hB)).get (by omega) k hlt
        have hwf := HW.out _ (List.getElem_mem hlt)
        generalize fs[k] = f at hR hwf
        have HC := Lib.hid (fun W (h : Below wr.heap.size wr W) => fits4_any B cs f W (Nat.le_trans (Nat.le_trans hB hsz) h.size) hwf (hR.below (h.mono (Nat.le_trans hB hsz))))
        obtain ⟨vc, vi, ve, vd, rfl, ⟨A1, c1, rfl, _⟩, ⟨A2, c2, rfl, _⟩, ⟨A3, c3, rfl, _⟩, ⟨A4, c4, rfl, _⟩⟩ := hR
        have d0 : wr.cell? ⟨gf, of + k * 13, none⟩ = some (.string f.err) := hcell 0 _ rfl
        have d1 : wr.cell? ⟨gf, of + k * 13 + 1, none⟩ = some (.string f.perr) := hcell 1 _ rfl
        have d2 : wr.cell? ⟨gf, of + k * 13 + 2, none⟩ = some (.string f.name) := hcell 2 _ rfl
        have d3 : wr.cell? ⟨gf, of + k * 13 + 3, none⟩ = some (.string f.syn) := hcell 3 _ rfl
        have d4 : wr.cell? ⟨gf, of + k * 13 + 4, none⟩ = some (.string f.pkg) := hcell 4 _ rfl
        have d5 : wr.cell? ⟨gf, of + k * 13 + 5, none⟩ = some (.bool f.ign) := hcell 5 _ rfl
        have d6 : wr.cell? ⟨gf, of + k * 13 + 6, none⟩ = some (.bool f.bin) := hcell 6 _ rfl
        have d7 : wr.cell? ⟨gf, of + k * 13 + 7, none⟩ = some (.string f.cgo) := hcell 7 _ rfl
        have d8 : wr.cell? ⟨gf, of + k * 13 + 8, none⟩ = some (.string f.con) := hcell 8 _ rfl
        have d9 : wr.cell? ⟨gf, of + k * 13 + 9, none⟩ = some (.slice A1 f.cons.length c1) := hcell 9 _ rfl
        have d10 : wr.cell? ⟨gf, of + k * 13 + 10, none⟩ = some (.slice A2 f.imps.length c2) := hcell 10 _ rfl
        have d11 : wr.cell? ⟨gf, of + k * 13 + 11, none⟩ = some (.slice A3 f.embs.length c3) := hcell 11 _ rfl
        have d12 : wr.cell? ⟨gf, of + k * 13 + 12, none⟩ = some (.slice A4 f.dirs.length c4) := hcell 12 _ rfl
        clear hcell hwf
        go_wp2_with fail
        refine (HC.out _ ((Below.refl _ _).alloc (Nat.le_refl _) _)).mono ?_
        rintro e w1 ⟨b, rfl, hb1⟩
        have hF2 : Below w.heap.size w w1 := (hF.alloc hsz _).trans (hb1.mono (by simp; omega))
        clear d0 d1 d2 d3 d4 d5 d6 d7 d8 d9 d10 d11 d12 hb1
        cases b
        · go_wp2_with fail
          go_ret
          exact ⟨_, rfl, hF2⟩
        · go_wp2_with fail
          go_roundw
          case rel => exact ⟨k + 1, by omega, by go_num, hF2⟩
          case measure => simp [intOf]; omega
      · go_wp2_with fail
        go_ret
        exact ⟨_, rfl, hF⟩

theorem fits2_any (B : Nat) (cs : List Value) (p : PkgD) (w : World) (hB : B ≤ w.heap.size) (hw : p.Wide) (hr : PkgR w B cs p) : Calls Tryd.prog 13 #[.agg cs.toArray] w (SomeBool w) := by
  obtain ⟨vf, rfl, hfs⟩ := hr
  obtain ⟨A, c, rfl⟩ := hfs.form
  have F1 := Lib.hid (fun (W : World) (h : Below w.heap.size w W) => fits3_any B (.slice A p.files.length c) p.files W (Nat.le_trans hB h.size) hw.files hw.each (hfs.files_below (h.mono hB)))
  have hb0 : Below w.heap.size w (w.alloc (.cells #[.string p.err, .string p.dir, .slice A p.files.length c] 27)) := (Below.refl _ _).alloc (Nat.le_refl _) _
  clear hfs hw
  go_enter Tryd.func13, Tryd.ntmps13
  go_wp2_with (go_at_call 21; refine (F1.out _ hb0).mono ?_; rintro e w4 ⟨b4, rfl, hc4⟩; have hb4 := hb0.trans (hc4.mono hb0.size))
  all_goals (go_ret; first | exact ⟨_, rfl, hb4⟩ | exact ⟨_, rfl, hb0⟩)

theorem fits1_any (B : Nat) (v : Value) (ps : List PkgD) (w : World) (hB : B ≤ w.heap.size) (hl : ps.length ≤ 9223372036854775807) (hw : ∀ p ∈ ps, p.Wide) (hd : PkgsAt w B v ps) : Calls Tryd.prog 7 #[v] w (SomeBool w) := by
  obtain ⟨A, c, rfl⟩ := ListAt.form hd
  have HV := Lib.hid hd
  have HW := Lib.hid hw
  clear hd hw
  by_cases hbig : (2147483647 : Int) < (ps.length : Int)
  · go_enter Tryd.func7, Tryd.ntmps7
    go_wp2_with fail
    go_ret
    exact ⟨_, rfl, Below.refl _ _⟩
  · go_enter Tryd.func7, Tryd.ntmps7
    go_wp2_with fail
    go_loopw [4, 10] (fun _ i wr => ∃ k : Nat, k ≤ ps.length ∧ i = .int .i64 k ∧ Below w.heap.size w wr) (fun _ i _ => ps.length - (intOf i).toNat)
    case atStart => exact ⟨0, Nat.zero_le _, rfl, Below.refl _ _⟩
    case round =>
      obtain ⟨k, hk, rfl, hF⟩ := hrel
      have hsz := hF.size
      by_cases hlt : k < ps.length
      · obtain ⟨gf, of, cs, rfl, hgf, _, hR, hcell⟩ := (PkgsAt.below HV.out (hF.mono hB)).get (by omega) k hlt
        have hwf := HW.out _ (List.getElem_mem hlt)
        generalize ps[k] = p at hR hwf
        have HC := Lib.hid (fun W (h : Below wr.heap.size wr W) => fits2_any B cs p W (Nat.le_trans (Nat.le_trans hB hsz) h.size) hwf (hR.below (h.mono (Nat.le_trans hB hsz))))
        obtain ⟨vf, rfl, hfs⟩ := hR
        obtain ⟨Af, cf, rfl⟩ := hfs.form
        have d0 : wr.cell? ⟨gf, of + k * 3, none⟩ = some (.string p.err) := hcell 0 _ rfl
        have d1 : wr.cell? ⟨gf, of + k * 3 + 1, none⟩ = some (.string p.dir) := hcell 1 _ rfl
        have d2 : wr.cell? ⟨gf, of + k * 3 + 2, none⟩ = some (.slice Af p.files.length cf) := hcell 2 _ rfl
        clear hcell hwf hfs
        go_wp2_with fail
        refine (HC.out _ ((Below.refl _ _).alloc (Nat.le_refl _) _)).mono ?_
        rintro e w1 ⟨b, rfl, hb1⟩
        have hF2 : Below w.heap.size w w1 := (hF.alloc hsz _).trans (hb1.mono (by simp; omega))
        clear d0 d1 d2 hb1
        cases b
        · go_wp2_with fail
          go_ret
          exact ⟨_, rfl, hF2⟩
        · go_wp2_with fail
          go_roundw
          case rel => exact ⟨k + 1, by omega, by go_num, hF2⟩
          case measure => simp [intOf]; omega
      · go_wp2_with fail
        go_ret
        exact ⟨_, rfl, hF⟩
end Go.Proofs.YtanfimeajalffaaDoor
