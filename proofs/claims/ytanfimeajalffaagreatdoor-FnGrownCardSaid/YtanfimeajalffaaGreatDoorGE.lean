/-
  The contracts of zzFits1 to zzFits8: each returns, and leaves what lay there. Conditions: the premises of each theorem.
  The contracts of short, directivesOk, fileOk, indexOk: what they answer is sound. Conditions: the premises of each theorem.
-/
import Derived.Test.YtanfimeajalffaaGreatDoorGC
import Derived.Deep.DrawnRows
namespace Go.Proofs.YtanfimeajalffaaGreatDoor
section
open Go.RowKit

/-- A yes or a no, and what lay there lies there still. -/
def SomeBool (w : World) (e : Ending) (w' : World) : Prop := ∃ b, e = .returned (.bool b) ∧ Below w.heap.size w w'

theorem fits8_any (p : PosD) (w : World) : Calls Tryz.prog 106 #[.agg #[.string p.fn, .int .i64 p.o, .int .i64 p.l, .int .i64 p.c]] w (SomeBool w) := by
  go_enter Tryz.func106, Tryz.ntmps106
  go_wp2
  all_goals (go_ret; exact ⟨_, rfl, (Below.refl _ _).alloc (Nat.le_refl _) _⟩)

theorem fits7_any (d : DirD) (w : World) : Calls Tryz.prog 90 #[.agg (dirCells d).toArray] w (SomeBool w) := by
  have HC := Lib.hid (fun W => fits8_any d.at_ W)
  unfold dirCells
  go_enter Tryz.func90, Tryz.ntmps90
  go_wp2_with (go_at_call 106; refine (HC.out _).mono ?_; rintro e w1 ⟨b, rfl, hb1⟩; have hb2 : Below w.heap.size w w1 := ((Below.refl _ _).alloc (Nat.le_refl _) _).trans (hb1.mono (by simp)))
  all_goals (go_ret; first | exact ⟨_, rfl, hb2⟩ | exact ⟨_, rfl, (Below.refl _ _).alloc (Nat.le_refl _) _⟩)

theorem fits6_any (B : Nat) (v : Value) (ds : List DirD) (w : World) (hB : B ≤ w.heap.size) (hl : ds.length ≤ 9223372036854775807) (hd : DirsAt w B v ds) : Calls Tryz.prog 73 #[v] w (SomeBool w) := by
  obtain ⟨A, c, rfl, hrd⟩ := hd
  have HRD := Lib.hid hrd
  clear hrd
  by_cases hbig : (2147483647 : Int) < (ds.length : Int)
  · go_enter Tryz.func73, Tryz.ntmps73
    go_wp2_with fail
    go_ret
    exact ⟨_, rfl, Below.refl _ _⟩
  · go_enter Tryz.func73, Tryz.ntmps73
    go_wp2_with fail
    go_loopw [4, 10] (fun _ i wr => ∃ k : Nat, k ≤ ds.length ∧ i = .int .i64 k ∧ Below w.heap.size w wr) (fun _ i _ => ds.length - (intOf i).toNat)
    case atStart => exact ⟨0, Nat.zero_le _, rfl, Below.refl _ _⟩
    case round =>
      obtain ⟨k, hk, rfl, hF⟩ := hrel
      have hsz := hF.size
      by_cases hlt : k < ds.length
      · obtain ⟨ag, ao, rfl, hab, hc0, hc1, hc2, hc3, hc4⟩ := DirsAt.cells (HRD.out.below (hF.mono hB)) k hlt
        generalize ds[k] = d at hc0 hc1 hc2 hc3 hc4
        have HC := Lib.hid (fun W => fits7_any d W)
        go_wp2_with fail
        refine (HC.out _).mono ?_
        rintro e w1 ⟨b, rfl, hb1⟩
        have hF2 : Below w.heap.size w w1 := (hF.alloc hsz _).trans (hb1.mono (by simp; omega))
        clear hc0 hc1 hc2 hc3 hc4 hb1
        cases b
        · go_wp2_with fail
          go_ret
          exact ⟨_, rfl, hF2⟩
        · go_wp2_with fail
          go_roundw
          case rel => exact ⟨k + 1, by omega, by go_num, hF2⟩
          case measure => simp [intOf]; omega
      · go_wp2_with fail
        go_ret
        exact ⟨_, rfl, hF⟩

theorem fits5_any (B : Nat) (v : Value) (ss : List ByteArray) (w : World) (hB : B ≤ w.heap.size) (hl : ss.length ≤ 9223372036854775807) (hd : StrsAt w B v ss) : Calls Tryz.prog 72 #[v] w (SomeBool w) := by
  obtain ⟨A, c, rfl, hrd⟩ := hd
  have HRD := Lib.hid hrd
  clear hrd
  by_cases hbig : (2147483647 : Int) < (ss.length : Int)
  · go_enter Tryz.func72, Tryz.ntmps72
    go_wp2_with fail
    go_ret
    exact ⟨_, rfl, Below.refl _ _⟩
  · go_enter Tryz.func72, Tryz.ntmps72
    go_wp2_with fail
    go_loopw [4, 10] (fun _ i wr => ∃ k : Nat, k ≤ ss.length ∧ i = .int .i64 k ∧ Below w.heap.size w wr) (fun _ i _ => ss.length - (intOf i).toNat)
    case atStart => exact ⟨0, Nat.zero_le _, rfl, Below.refl _ _⟩
    case round =>
      obtain ⟨k, hk, rfl, hF⟩ := hrel
      by_cases hlt : k < ss.length
      · obtain ⟨ag, ao, rfl, hab, hc0⟩ := StrsAt.cell (HRD.out.below (hF.mono hB)) k hlt
        generalize ss[k] = s at hc0
        go_wp2_with fail
        · go_ret
          exact ⟨_, rfl, hF⟩
        · go_roundw
          case rel => exact ⟨k + 1, by omega, by go_num, hF⟩
          case measure => simp [intOf]; omega
      · go_wp2_with fail
        go_ret
        exact ⟨_, rfl, hF⟩

/-- No list is longer than a number can tell. -/
structure FileD.Wide (f : FileD) : Prop where
  cons : f.cons.length ≤ 9223372036854775807
  imps : f.imps.length ≤ 9223372036854775807
  embs : f.embs.length ≤ 9223372036854775807
  dirs : f.dirs.length ≤ 9223372036854775807
structure PkgD.Wide (p : PkgD) : Prop where
  files : p.files.length ≤ 9223372036854775807
  each : ∀ f ∈ p.files, f.Wide

set_option maxHeartbeats 2000000 in
theorem fits4_any (B : Nat) (cs : List Value) (f : FileD) (w : World) (hB : B ≤ w.heap.size) (hw : f.Wide) (hr : FileR w B cs f) : Calls Tryz.prog 36 #[.agg cs.toArray] w (SomeBool w) := by
  obtain ⟨vc, vi, ve, vd, rfl, ⟨A1, c1, rfl, x1⟩, ⟨A2, c2, rfl, x2⟩, ⟨A3, c3, rfl, x3⟩, ⟨A4, c4, rfl, x4⟩⟩ := hr
  have F1 := Lib.hid (fun (W : World) (h : Below w.heap.size w W) => fits5_any B (.slice A1 f.cons.length c1) f.cons W (Nat.le_trans hB h.size) hw.cons ⟨A1, c1, rfl, x1.below (h.mono hB)⟩)
  have F2 := Lib.hid (fun (W : World) (h : Below w.heap.size w W) => fits6_any B (.slice A2 f.imps.length c2) f.imps W (Nat.le_trans hB h.size) hw.imps ⟨A2, c2, rfl, x2.below (h.mono hB)⟩)
  have F3 := Lib.hid (fun (W : World) (h : Below w.heap.size w W) => fits6_any B (.slice A3 f.embs.length c3) f.embs W (Nat.le_trans hB h.size) hw.embs ⟨A3, c3, rfl, x3.below (h.mono hB)⟩)
  have F4 := Lib.hid (fun (W : World) (h : Below w.heap.size w W) => fits6_any B (.slice A4 f.dirs.length c4) f.dirs W (Nat.le_trans hB h.size) hw.dirs ⟨A4, c4, rfl, x4.below (h.mono hB)⟩)
  have hb0 : Below w.heap.size w (w.alloc (.cells #[.string f.err, .string f.perr, .string f.name, .string f.syn, .string f.pkg, .bool f.ign, .bool f.bin, .string f.cgo, .string f.con, .slice A1 f.cons.length c1, .slice A2 f.imps.length c2, .slice A3 f.embs.length c3, .slice A4 f.dirs.length c4] 43)) := (Below.refl _ _).alloc (Nat.le_refl _) _
  have hk0 := Blk.new w 43 #[.string f.err, .string f.perr, .string f.name, .string f.syn, .string f.pkg, .bool f.ign, .bool f.bin, .string f.cgo, .string f.con, .slice A1 f.cons.length c1, .slice A2 f.imps.length c2, .slice A3 f.embs.length c3, .slice A4 f.dirs.length c4]
  have HK := Lib.hid hk0
  clear x1 x2 x3 x4 hw hk0
  unfold fileCells
  go_enter Tryz.func36, Tryz.ntmps36
  go_wp2_with (first
    | (go_at_call 73; refine (F4.out _ hb3).mono ?_; rintro e w4 ⟨b4, rfl, hc4⟩; have hb4 := hb3.trans (hc4.mono hb3.size))
    | (go_at_call 73; refine (F3.out _ hb2).mono ?_; rintro e w3 ⟨b3, rfl, hc3⟩; have hb3 := hb2.trans (hc3.mono hb2.size); have hk3 := hk2.below hc3 hk2.lt; have q12 := hk3.cell 12)
    | (go_at_call 73; refine (F2.out _ hb1).mono ?_; rintro e w2 ⟨b2, rfl, hc2⟩; have hb2 := hb1.trans (hc2.mono hb1.size); have hk2 := hk1.below hc2 hk1.lt; have q11 := hk2.cell 11)
    | (go_at_call 72; refine (F1.out _ hb0).mono ?_; rintro e w1 ⟨b1, rfl, hc1⟩; have hb1 := hb0.trans (hc1.mono hb0.size); have hk1 := HK.out.below hc1 HK.out.lt; have q10 := hk1.cell 10))
  all_goals (go_ret; first | exact ⟨_, rfl, hb4⟩ | exact ⟨_, rfl, hb3⟩ | exact ⟨_, rfl, hb2⟩ | exact ⟨_, rfl, hb1⟩ | exact ⟨_, rfl, hb0⟩)

set_option maxHeartbeats 1000000 in
theorem fits3_any (B : Nat) (v : Value) (fs : List FileD) (w : World) (hB : B ≤ w.heap.size) (hl : fs.length ≤ 9223372036854775807) (hw : ∀ f ∈ fs, f.Wide) (hd : ListAt w B 13 (FileR w B) v fs) : Calls Tryz.prog 24 #[v] w (SomeBool w) := by
  obtain ⟨A, c, rfl⟩ := hd.form
  have HV := Lib.hid hd
  have HW := Lib.hid hw
  clear hd hw
  by_cases hbig : (2147483647 : Int) < (fs.length : Int)
  · go_enter Tryz.func24, Tryz.ntmps24
    go_wp2_with fail
    go_ret
    exact ⟨_, rfl, Below.refl _ _⟩
  · go_enter Tryz.func24, Tryz.ntmps24
    go_wp2_with fail
    go_loopw [4, 10] (fun _ i wr => ∃ k : Nat, k ≤ fs.length ∧ i = .int .i64 k ∧ Below w.heap.size w wr) (fun _ i _ => fs.length - (intOf i).toNat)
    case atStart => exact ⟨0, Nat.zero_le _, rfl, Below.refl _ _⟩
    case round =>
      obtain ⟨k, hk, rfl, hF⟩ := hrel
      have hsz := hF.size
      by_cases hlt : k < fs.length
      · obtain ⟨gf, of, cs, rfl, hgf, _, hR, hcell⟩ := (ListAt.files_below HV.out (hF.mono hB)).get (by omega) k hlt
        have hwf := HW.out _ (List.getElem_mem hlt)
        generalize fs[k] = f at hR hwf
        have HC := Lib.hid (fun W (h : Below wr.heap.size wr W) => fits4_any B cs f W (Nat.le_trans (Nat.le_trans hB hsz) h.size) hwf (hR.below (h.mono (Nat.le_trans hB hsz))))
        obtain ⟨vc, vi, ve, vd, rfl, ⟨A1, c1, rfl, _⟩, ⟨A2, c2, rfl, _⟩, ⟨A3, c3, rfl, _⟩, ⟨A4, c4, rfl, _⟩⟩ := hR
        have d0 : wr.cell? ⟨gf, of + k * 13, none⟩ = some (.string f.err) := hcell 0 _ rfl
        have d1 : wr.cell? ⟨gf, of + k * 13 + 1, none⟩ = some (.string f.perr) := hcell 1 _ rfl
        have d2 : wr.cell? ⟨gf, of + k * 13 + 2, none⟩ = some (.string f.name) := hcell 2 _ rfl
        have d3 : wr.cell? ⟨gf, of + k * 13 + 3, none⟩ = some (.string f.syn) := hcell 3 _ rfl
        have d4 : wr.cell? ⟨gf, of + k * 13 + 4, none⟩ = some (.string f.pkg) := hcell 4 _ rfl
        have d5 : wr.cell? ⟨gf, of + k * 13 + 5, none⟩ = some (.bool f.ign) := hcell 5 _ rfl
        have d6 : wr.cell? ⟨gf, of + k * 13 + 6, none⟩ = some (.bool f.bin) := hcell 6 _ rfl
        have d7 : wr.cell? ⟨gf, of + k * 13 + 7, none⟩ = some (.string f.cgo) := hcell 7 _ rfl
        have d8 : wr.cell? ⟨gf, of + k * 13 + 8, none⟩ = some (.string f.con) := hcell 8 _ rfl
        have d9 : wr.cell? ⟨gf, of + k * 13 + 9, none⟩ = some (.slice A1 f.cons.length c1) := hcell 9 _ rfl
        have d10 : wr.cell? ⟨gf, of + k * 13 + 10, none⟩ = some (.slice A2 f.imps.length c2) := hcell 10 _ rfl
        have d11 : wr.cell? ⟨gf, of + k * 13 + 11, none⟩ = some (.slice A3 f.embs.length c3) := hcell 11 _ rfl
        have d12 : wr.cell? ⟨gf, of + k * 13 + 12, none⟩ = some (.slice A4 f.dirs.length c4) := hcell 12 _ rfl
        clear hcell hwf
        go_wp2_with fail
        refine (HC.out _ ((Below.refl _ _).alloc (Nat.le_refl _) _)).mono ?_
        rintro e w1 ⟨b, rfl, hb1⟩
        have hF2 : Below w.heap.size w w1 := (hF.alloc hsz _).trans (hb1.mono (by simp; omega))
        clear d0 d1 d2 d3 d4 d5 d6 d7 d8 d9 d10 d11 d12 hb1
        cases b
        · go_wp2_with fail
          go_ret
          exact ⟨_, rfl, hF2⟩
        · go_wp2_with fail
          go_roundw
          case rel => exact ⟨k + 1, by omega, by go_num, hF2⟩
          case measure => simp [intOf]; omega
      · go_wp2_with fail
        go_ret
        exact ⟨_, rfl, hF⟩

theorem fits2_any (B : Nat) (cs : List Value) (p : PkgD) (w : World) (hB : B ≤ w.heap.size) (hw : p.Wide) (hr : PkgR w B cs p) : Calls Tryz.prog 16 #[.agg cs.toArray] w (SomeBool w) := by
  obtain ⟨vf, rfl, hfs⟩ := hr
  obtain ⟨A, c, rfl⟩ := hfs.form
  have F1 := Lib.hid (fun (W : World) (h : Below w.heap.size w W) => fits3_any B (.slice A p.files.length c) p.files W (Nat.le_trans hB h.size) hw.files hw.each (hfs.files_below (h.mono hB)))
  have hb0 : Below w.heap.size w (w.alloc (.cells #[.string p.err, .string p.dir, .slice A p.files.length c] 32)) := (Below.refl _ _).alloc (Nat.le_refl _) _
  clear hfs hw
  go_enter Tryz.func16, Tryz.ntmps16
  go_wp2_with (go_at_call 24; refine (F1.out _ hb0).mono ?_; rintro e w4 ⟨b4, rfl, hc4⟩; have hb4 := hb0.trans (hc4.mono hb0.size))
  all_goals (go_ret; first | exact ⟨_, rfl, hb4⟩ | exact ⟨_, rfl, hb0⟩)

theorem fits1_any (B : Nat) (v : Value) (ps : List PkgD) (w : World) (hB : B ≤ w.heap.size) (hl : ps.length ≤ 9223372036854775807) (hw : ∀ p ∈ ps, p.Wide) (hd : PkgsAt w B v ps) : Calls Tryz.prog 7 #[v] w (SomeBool w) := by
  obtain ⟨A, c, rfl⟩ := ListAt.form hd
  have HV := Lib.hid hd
  have HW := Lib.hid hw
  clear hd hw
  by_cases hbig : (2147483647 : Int) < (ps.length : Int)
  · go_enter Tryz.func7, Tryz.ntmps7
    go_wp2_with fail
    go_ret
    exact ⟨_, rfl, Below.refl _ _⟩
  · go_enter Tryz.func7, Tryz.ntmps7
    go_wp2_with fail
    go_loopw [4, 10] (fun _ i wr => ∃ k : Nat, k ≤ ps.length ∧ i = .int .i64 k ∧ Below w.heap.size w wr) (fun _ i _ => ps.length - (intOf i).toNat)
    case atStart => exact ⟨0, Nat.zero_le _, rfl, Below.refl _ _⟩
    case round =>
      obtain ⟨k, hk, rfl, hF⟩ := hrel
      have hsz := hF.size
      by_cases hlt : k < ps.length
      · obtain ⟨gf, of, cs, rfl, hgf, _, hR, hcell⟩ := (PkgsAt.below HV.out (hF.mono hB)).get (by omega) k hlt
        have hwf := HW.out _ (List.getElem_mem hlt)
        generalize ps[k] = p at hR hwf
        have HC := Lib.hid (fun W (h : Below wr.heap.size wr W) => fits2_any B cs p W (Nat.le_trans (Nat.le_trans hB hsz) h.size) hwf (hR.below (h.mono (Nat.le_trans hB hsz))))
        obtain ⟨vf, rfl, hfs⟩ := hR
        obtain ⟨Af, cf, rfl⟩ := hfs.form
        have d0 : wr.cell? ⟨gf, of + k * 3, none⟩ = some (.string p.err) := hcell 0 _ rfl
        have d1 : wr.cell? ⟨gf, of + k * 3 + 1, none⟩ = some (.string p.dir) := hcell 1 _ rfl
        have d2 : wr.cell? ⟨gf, of + k * 3 + 2, none⟩ = some (.slice Af p.files.length cf) := hcell 2 _ rfl
        clear hcell hwf hfs
        go_wp2_with fail
        refine (HC.out _ ((Below.refl _ _).alloc (Nat.le_refl _) _)).mono ?_
        rintro e w1 ⟨b, rfl, hb1⟩
        have hF2 : Below w.heap.size w w1 := (hF.alloc hsz _).trans (hb1.mono (by simp; omega))
        clear d0 d1 d2 hb1
        cases b
        · go_wp2_with fail
          go_ret
          exact ⟨_, rfl, hF2⟩
        · go_wp2_with fail
          go_roundw
          case rel => exact ⟨k + 1, by omega, by go_num, hF2⟩
          case measure => simp [intOf]; omega
      · go_wp2_with fail
        go_ret
        exact ⟨_, rfl, hF⟩
end
section
open Go.RowKit
attribute [local go_sem ↓] Go.wp_at_zero Go.wp_at_succ

def shortB (ss : List ByteArray) : Bool := ss.all fun s => decide (s.size ≤ 1000)
theorem shortB_take (ss : List ByteArray) (k : Nat) (hk : k < ss.length) (h : shortB (ss.take k) = true) (hs : ss[k].size ≤ 1000) : shortB (ss.take (k + 1)) = true := by
  unfold shortB at h ⊢
  rw [List.take_add_one, List.getElem?_eq_getElem hk, List.all_append, h]
  simp [hs]
theorem shortB_no (ss : List ByteArray) (k : Nat) (hk : k < ss.length) (hs : ¬ ss[k].size ≤ 1000) : shortB ss = false := by
  unfold shortB
  rw [Bool.eq_false_iff]
  intro h
  rw [List.all_eq_true] at h
  have := h _ (List.getElem_mem hk)
  simp at this
  exact hs this
theorem shortB_mem {ss : List ByteArray} (h : shortB ss = true) : ∀ s ∈ ss, s.size ≤ 1000 := by
  intro s hs
  unfold shortB at h
  rw [List.all_eq_true] at h
  simpa using h s hs

theorem short_any (B : Nat) (v : Value) (ss : List ByteArray) (w : World) (hl : ss.length ≤ 9223372036854775807) (hd : StrsAt w B v ss) : Calls Tryz.prog 12 #[v] w fun e w' => e = .returned (.bool (shortB ss)) ∧ w = w' := by
  obtain ⟨A, c, rfl, hrd⟩ := hd
  have HRD := Lib.hid hrd
  clear hrd
  go_enter Tryz.func12, Tryz.ntmps12
  go_wp2_with fail
  go_loop [4, 7] (fun _ i => ∃ k : Nat, k ≤ ss.length ∧ i = .int .i64 k ∧ shortB (ss.take k) = true) (fun _ i => ss.length - (intOf i).toNat)
  case atStart => exact ⟨0, Nat.zero_le _, rfl, rfl⟩
  case round =>
    obtain ⟨k, hk, rfl, hF⟩ := hrel
    by_cases hlt : k < ss.length
    · obtain ⟨ag, ao, rfl, hab, hc0⟩ := StrsAt.cell HRD.out k hlt
      have HS := Lib.hid (shortB_take ss k hlt hF)
      have HN := Lib.hid (shortB_no ss k hlt)
      generalize ss[k] = s at hc0 HS HN
      clear hF
      go_wp2_with fail
      · have hf := Lib.hid (HN.out (by omega))
        go_ret
        exact ⟨by rw [hf.out]; rfl, rfl⟩
      · have hs : s.size ≤ 1000 := by omega
        go_round
        case rel => exact ⟨k + 1, by omega, by go_num, HS.out hs⟩
        case measure => simp [intOf]; omega
    · have hkl : k = ss.length := by omega
      subst hkl
      rw [List.take_length] at hF
      have HF := Lib.hid hF
      clear hF
      go_wp2_with fail
      go_ret
      exact ⟨by rw [HF.out]; rfl, rfl⟩

theorem strs_new (w : World) (cs : Array Value) (ss : List ByteArray) (n m : Nat) (hn : ss.length = n) (hm : w.heap.size = m) (h : cs.toList = ss.map Value.string) : StrsAt (w.alloc (.cells cs 9)) (m + 1) (.slice (some ⟨m, 0, none⟩) n n) ss := by
  subst hn
  refine ⟨_, _, rfl, ?_⟩
  rw [← h]
  exact reads_row w cs _ m _ 1 (by rw [← Array.length_toList, h]; simp) hm

/-- An answer, sound for p; what lay there lies there still. -/
def Sound (p : Prop) (w : World) (e : Ending) (w' : World) : Prop := ∃ b : Bool, e = .returned (.bool b) ∧ Below w.heap.size w w' ∧ (b = true → p)

set_option maxHeartbeats 2000000 in
set_option maxRecDepth 100000 in
theorem dirsOk_any (B : Nat) (v : Value) (ds : List DirD) (w : World) (hB : B ≤ w.heap.size) (hl : ds.length ≤ 9223372036854775807) (hd : DirsAt w B v ds) :
    Calls Tryz.prog 25 #[v] w (Sound (ds.length ≤ 10 ∧ ∀ d ∈ ds, d.ok) w) := by
  obtain ⟨A, c, rfl, hrd⟩ := hd
  have HRD := Lib.hid hrd
  clear hrd
  go_enter Tryz.func25, Tryz.ntmps25
  go_wp2_with fail
  go_loopw [4, 5, 8] (fun _ _ i wr => ∃ k : Nat, k ≤ ds.length ∧ i = .int .i64 k ∧ Below w.heap.size w wr ∧ ∀ d ∈ ds.take k, d.ok) (fun _ _ i _ => ds.length - (intOf i).toNat)
  case atStart => exact ⟨0, Nat.zero_le _, rfl, Below.refl _ _, by simp⟩
  case round =>
    obtain ⟨k, hk, rfl, hF, hall⟩ := hrel
    have hsz := hF.size
    by_cases hlt : k < ds.length
    · obtain ⟨ag, ao, rfl, hab, hc0, hc1, hc2, hc3, hc4⟩ := DirsAt.cells (HRD.out.below (hF.mono hB)) k hlt
      have HA : Hid (ds[k].ok → ∀ d ∈ ds.take (k + 1), d.ok) := Lib.hid fun h d hd => by
        rw [List.take_add_one, List.getElem?_eq_getElem hlt, List.mem_append] at hd
        rcases hd with hd | hd
        · exact hall d hd
        · simp at hd
          rw [hd]
          exact h
      generalize ds[k] = d at hc0 hc1 hc2 hc3 hc4 HA
      have HC := Lib.hid (fun W h => short_any (wr.heap.size + 3) (.slice (some ⟨wr.heap.size + 2, 0, none⟩) 2 2) [d.text, d.at_.fn] W (by simp) h)
      clear hall
      go_wp2_with (refine (HC.out _ (strs_new _ _ _ _ _ rfl (by simp) rfl)).mono ?_; rintro e w1 ⟨rfl, rfl⟩)
      all_goals first
        | (go_ret; exact ⟨_, rfl, ((hF.alloc hsz _).alloc (by simp; omega) _).alloc (by simp; omega) _, fun h => by cases h⟩)
        | skip
      have hsb : shortB [d.text, d.at_.fn] = true := by assumption
      have hm := shortB_mem hsb
      have hok : d.ok := ⟨hm _ (by simp), hm _ (by simp), by omega, by omega, by omega, by omega, by omega, by omega⟩
      have HO := Lib.hid (HA.out hok)
      clear hm hok
      go_roundw
      case rel => exact ⟨k + 1, by omega, by go_num, ((hF.alloc hsz _).alloc (by simp; omega) _).alloc (by simp; omega) _, HO.out⟩
      case measure => simp [intOf]; omega
    · have hkl : k = ds.length := by omega
      subst hkl
      rw [List.take_length] at hall
      have HALL := Lib.hid hall
      clear hall
      go_wp2_with fail
      go_ret
      refine ⟨_, rfl, hF, fun h => ⟨?_, HALL.out⟩⟩
      simp at h
      omega

set_option maxHeartbeats 2000000 in
set_option maxRecDepth 100000 in
theorem fileOk_any (B : Nat) (cs : List Value) (f : FileD) (w : World) (hB : B ≤ w.heap.size) (hw : f.Wide) (hr : FileR w B cs f) : Calls Tryz.prog 17 #[.agg cs.toArray] w (Sound f.Ok w) := by
  obtain ⟨vc, vi, ve, vd, rfl, ⟨A1, c1, rfl, x1⟩, ⟨A2, c2, rfl, x2⟩, ⟨A3, c3, rfl, x3⟩, ⟨A4, c4, rfl, x4⟩⟩ := hr
  have hb0 : Below w.heap.size w ((w.alloc (.cells #[.string f.err, .string f.perr, .string f.name, .string f.syn, .string f.pkg, .bool f.ign, .bool f.bin, .string f.cgo, .string f.con, .slice A1 f.cons.length c1, .slice A2 f.imps.length c2, .slice A3 f.embs.length c3, .slice A4 f.dirs.length c4] 43)).alloc (.cells #[.string f.err, .string f.perr, .string f.name, .string f.syn, .string f.pkg, .string f.cgo, .string f.con] 9)) := ((Below.refl _ _).alloc (Nat.le_refl _) _).alloc (by simp) _
  have S1 := Lib.hid (short_any (w.heap.size + 2) (.slice (some ⟨w.heap.size + 1, 0, none⟩) 7 7) [f.err, f.perr, f.name, f.syn, f.pkg, f.cgo, f.con] ((w.alloc (.cells #[.string f.err, .string f.perr, .string f.name, .string f.syn, .string f.pkg, .bool f.ign, .bool f.bin, .string f.cgo, .string f.con, .slice A1 f.cons.length c1, .slice A2 f.imps.length c2, .slice A3 f.embs.length c3, .slice A4 f.dirs.length c4] 43)).alloc (.cells #[.string f.err, .string f.perr, .string f.name, .string f.syn, .string f.pkg, .string f.cgo, .string f.con] 9)) (by simp) (strs_new (w.alloc (.cells #[.string f.err, .string f.perr, .string f.name, .string f.syn, .string f.pkg, .bool f.ign, .bool f.bin, .string f.cgo, .string f.con, .slice A1 f.cons.length c1, .slice A2 f.imps.length c2, .slice A3 f.embs.length c3, .slice A4 f.dirs.length c4] 43)) #[.string f.err, .string f.perr, .string f.name, .string f.syn, .string f.pkg, .string f.cgo, .string f.con] [f.err, f.perr, f.name, f.syn, f.pkg, f.cgo, f.con] 7 (w.heap.size + 1) rfl (by simp) rfl))
  have S2 := Lib.hid (fun (W : World) (h : Below w.heap.size w W) => short_any B (.slice A1 f.cons.length c1) f.cons W hw.cons ⟨A1, c1, rfl, x1.below (h.mono hB)⟩)
  have F2 := Lib.hid (fun (W : World) (h : Below w.heap.size w W) => dirsOk_any B (.slice A2 f.imps.length c2) f.imps W (Nat.le_trans hB h.size) hw.imps ⟨A2, c2, rfl, x2.below (h.mono hB)⟩)
  have F3 := Lib.hid (fun (W : World) (h : Below w.heap.size w W) => dirsOk_any B (.slice A3 f.embs.length c3) f.embs W (Nat.le_trans hB h.size) hw.embs ⟨A3, c3, rfl, x3.below (h.mono hB)⟩)
  have F4 := Lib.hid (fun (W : World) (h : Below w.heap.size w W) => dirsOk_any B (.slice A4 f.dirs.length c4) f.dirs W (Nat.le_trans hB h.size) hw.dirs ⟨A4, c4, rfl, x4.below (h.mono hB)⟩)
  have HK := Lib.hid ((Blk.new w 43 #[.string f.err, .string f.perr, .string f.name, .string f.syn, .string f.pkg, .bool f.ign, .bool f.bin, .string f.cgo, .string f.con, .slice A1 f.cons.length c1, .slice A2 f.imps.length c2, .slice A3 f.embs.length c3, .slice A4 f.dirs.length c4]).alloc (.cells #[.string f.err, .string f.perr, .string f.name, .string f.syn, .string f.pkg, .string f.cgo, .string f.con] 9))
  clear x1 x2 x3 x4 hw
  unfold fileCells
  go_enter Tryz.func17, Tryz.ntmps17
  go_wp2_with (first
    | (go_at_call 12; (with_reducible refine (S1.out).mono ?_); rintro e w1 ⟨rfl, rfl⟩)
    | (go_at_call 12; refine (S2.out _ hb0).mono ?_; rintro e w1 ⟨rfl, rfl⟩)
    | (go_at_call 25; refine (F4.out _ hb3).mono ?_; rintro e w4 ⟨b4, rfl, hc4, hs4⟩; have hb4 := hb3.trans (hc4.mono hb3.size); have HS4 := Lib.hid hs4; clear hs4)
    | (go_at_call 25; refine (F3.out _ hb2).mono ?_; rintro e w3 ⟨b3, rfl, hc3, hs3⟩; have hb3 := hb2.trans (hc3.mono hb2.size); have hk3 := hk2.below hc3 hk2.lt; have q12 := hk3.cell 12; have HS3 := Lib.hid hs3; clear hs3)
    | (go_at_call 25; refine (F2.out _ hb0).mono ?_; rintro e w2 ⟨b2, rfl, hc2, hs2⟩; have hb2 := hb0.trans (hc2.mono hb0.size); have hk2 := HK.out.below hc2 HK.out.lt; have q11 := hk2.cell 11; have HS2 := Lib.hid hs2; clear hs2))
  · have g1 : shortB [f.err, f.perr, f.name, f.syn, f.pkg, f.cgo, f.con] = true := by assumption
    have g2 : shortB f.cons = true := by assumption
    have g3 : (f.cons.length : Int) ≤ 10 := by assumption
    have g4 := HS2.out (by assumption)
    have g5 := HS3.out (by assumption)
    have m1 := shortB_mem g1
    have m2 := shortB_mem g2
    have HG := Lib.hid g4
    have HG5 := Lib.hid g5
    have M1 := Lib.hid m1
    have M2 := Lib.hid m2
    clear g4 g5 m1 m2
    go_ret
    refine ⟨_, rfl, hb4, fun h => ?_⟩
    have g6 := HS4.out h
    exact { err := M1.out _ (by simp), perr := M1.out _ (by simp), name := M1.out _ (by simp), syn := M1.out _ (by simp), pkg := M1.out _ (by simp), cgo := M1.out _ (by simp), con := M1.out _ (by simp), cons := M2.out, consL := by omega,
            imps := HG.out.2, impsL := HG.out.1, embs := HG5.out.2, embsL := HG5.out.1, dirs := g6.2, dirsL := g6.1 }
  all_goals (go_ret; first | exact ⟨_, rfl, hb3, fun h => by cases h⟩ | exact ⟨_, rfl, hb2, fun h => by cases h⟩ | exact ⟨_, rfl, hb0, fun h => by cases h⟩)
end
end Go.Proofs.YtanfimeajalffaaGreatDoor
