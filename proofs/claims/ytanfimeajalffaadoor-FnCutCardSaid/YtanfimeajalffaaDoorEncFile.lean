/-
  The contract of encodeFile. Condition: a file within the law's bounds, that lies ahead of what the encoder owns. (Printed by wip/genfile.py.)
-/
import Derived.Test.YtanfimeajalffaaDoorData
namespace Go.Proofs.YtanfimeajalffaaDoor
open Go.RowKit

theorem EG.mono {w : World} {base E kb kt kb' kt' : Nat} {es : ES} (h : EG w base E es kb kt) (h1 : kb ≤ kb') (h2 : kt ≤ kt') : EG w base E es kb' kt' :=
  ⟨h.1, h.2.1, by have := h.2.2.1; omega, by have := h.2.2.2; omega⟩

set_option maxHeartbeats 16000000 in
set_option maxRecDepth 100000 in
theorem fileG (base E kb kt B g : Nat) (f : FileD) (cs : List Value) (es : ES) (w : World) (hB : B ≤ base) (hg : g < B) (hf : f.Ok) (hb : Blk w g 76 cs.toArray) (hr : FileR w B cs f) (hkb : kb ≤ 50000000) (hkt : kt ≤ 50000000) (h : EG w base E es kb kt) :
    Calls Tryd.prog 77 #[.pointer (some ⟨E, 0, none⟩), .pointer (some ⟨g, 0, none⟩)] w fun e w' => e = .returned (.tuple #[]) ∧ EG w' base E (es.file f) (kb + 1000) (kt + 100000) ∧ Fr base E w w' := by
  obtain ⟨vc, vi, ve, vd, rfl, ⟨Ac, cc, rfl, hvc⟩, ⟨Ai, ci, rfl, hvi⟩, ⟨Ae, ce, rfl, hve⟩, ⟨Ad, cd, rfl, hvd⟩⟩ := hr
  have hB0 : g < base := by omega
  have HCL := hf.consL
  have HIL := hf.impsL
  have HEL := hf.embsL
  have HDL := hf.dirsL
  have cc : ∀ w' : World, Fr base E w w' → ∀ j, w'.cell? ⟨g, j, none⟩ = (fileCells f (.slice Ac f.cons.length cc) (.slice Ai f.imps.length ci) (.slice Ae f.embs.length ce) (.slice Ad f.dirs.length cd)).toArray[j]? := fun w' hF j => (hb.below hF.1 hB0).cell j
  have CC := Lib.hid cc
  have HVC := Lib.hid hvc
  have HVI := Lib.hid hvi
  have HVE := Lib.hid hve
  have HVD := Lib.hid hvd
  have HF := Lib.hid hf
  clear cc hb hvc hvi hve hvd hf
  have F0 := Fr.refl base E w
  have h0 := h
  clear h
  go_enter Tryd.func77, Tryd.ntmps77
  have c0 : w.cell? ⟨g, 0, none⟩ = some (.string f.err) := CC.out w F0 0
  have C0 := strG base E _ _ f.err _ w HF.out.err (by omega) (by omega) h0
  clear h0
  go_wp2_with fail
  refine C0.mono ?_
  rintro e w1 ⟨rfl, h1, G1⟩
  have F1 := F0.trans G1
  clear C0 c0 F0 G1
  have c1 : w1.cell? ⟨g, 1, none⟩ = some (.string f.perr) := CC.out w1 F1 1
  have C1 := strG base E _ _ f.perr _ w1 HF.out.perr (by omega) (by omega) h1
  clear h1
  go_wp2_with fail
  refine C1.mono ?_
  rintro e w2 ⟨rfl, h2, G2⟩
  have F2 := F1.trans G2
  clear C1 c1 F1 G2
  have c2 : w2.cell? ⟨g, 3, none⟩ = some (.string f.syn) := CC.out w2 F2 3
  have C2 := strG base E _ _ f.syn _ w2 HF.out.syn (by omega) (by omega) h2
  clear h2
  go_wp2_with fail
  refine C2.mono ?_
  rintro e w3 ⟨rfl, h3, G3⟩
  have F3 := F2.trans G3
  clear C2 c2 F2 G3
  have c3 : w3.cell? ⟨g, 2, none⟩ = some (.string f.name) := CC.out w3 F3 2
  have C3 := strG base E _ _ f.name _ w3 HF.out.name (by omega) (by omega) h3
  clear h3
  go_wp2_with fail
  refine C3.mono ?_
  rintro e w4 ⟨rfl, h4, G4⟩
  have F4 := F3.trans G4
  clear C3 c3 F3 G4
  have c4 : w4.cell? ⟨g, 4, none⟩ = some (.string f.pkg) := CC.out w4 F4 4
  have C4 := strG base E _ _ f.pkg _ w4 HF.out.pkg (by omega) (by omega) h4
  clear h4
  go_wp2_with fail
  refine C4.mono ?_
  rintro e w5 ⟨rfl, h5, G5⟩
  have F5 := F4.trans G5
  clear C4 c4 F4 G5
  have c5 : w5.cell? ⟨g, 5, none⟩ = some (.bool f.ign) := CC.out w5 F5 5
  have C5 := boolG base E _ _ f.ign _ w5 (by omega) h5
  clear h5
  go_wp2_with fail
  refine C5.mono ?_
  rintro e w6 ⟨rfl, h6, G6⟩
  have F6 := F5.trans G6
  clear C5 c5 F5 G6
  have c6 : w6.cell? ⟨g, 6, none⟩ = some (.bool f.bin) := CC.out w6 F6 6
  have C6 := boolG base E _ _ f.bin _ w6 (by omega) h6
  clear h6
  go_wp2_with fail
  refine C6.mono ?_
  rintro e w7 ⟨rfl, h7, G7⟩
  have F7 := F6.trans G7
  clear C6 c6 F6 G7
  have c7 : w7.cell? ⟨g, 7, none⟩ = some (.string f.cgo) := CC.out w7 F7 7
  have C7 := strG base E _ _ f.cgo _ w7 HF.out.cgo (by omega) (by omega) h7
  clear h7
  go_wp2_with fail
  refine C7.mono ?_
  rintro e w8 ⟨rfl, h8, G8⟩
  have F8 := F7.trans G8
  clear C7 c7 F7 G8
  have c8 : w8.cell? ⟨g, 8, none⟩ = some (.string f.con) := CC.out w8 F8 8
  have C8 := strG base E _ _ f.con _ w8 HF.out.con (by omega) (by omega) h8
  clear h8
  go_wp2_with fail
  refine C8.mono ?_
  rintro e w9 ⟨rfl, h9, G9⟩
  have F9 := F8.trans G9
  clear C8 c8 F8 G9
  have c9 : w9.cell? ⟨g, 9, none⟩ = some (.slice Ac f.cons.length cc) := CC.out w9 F9 9
  have C9 := intG base E _ _ f.cons.length _ w9 (by omega) (by omega) h9
  clear h9
  go_wp2_with fail
  refine C9.mono ?_
  rintro e w10 ⟨rfl, h10, G10⟩
  have F10 := F9.trans G10
  clear C9 c9 F9 G10
  have h10 : EG w10 base E ((es.head f).int f.cons.length) (kb + 40) (kt + 7014) := h10.mono (by omega) (by omega)
  generalize hES0 : (es.head f).int f.cons.length = es0 at h10
  have HES0 := Lib.hid hES0
  clear hES0
  have c10 : w10.cell? ⟨g, 9, none⟩ = some (.slice Ac f.cons.length cc) := CC.out w10 F10 9
  go_wp2_with fail
  go_loopw [5, 78] (fun _ i wr => ∃ k : Nat, k ≤ f.cons.length ∧ i = .int .i64 k ∧ EG wr base E (es0.strs (f.cons.take k)) (kb + 40 + k * 4) (kt + 7014 + k * 1002) ∧ Fr base E w wr) (fun _ i _ => f.cons.length - (intOf i).toNat)
  case atStart => exact ⟨0, Nat.zero_le _, rfl, h10.mono (by omega) (by omega), F10⟩
  case round =>
    obtain ⟨k, hk, rfl, hE, hF⟩ := hrel
    clear c10 h10 F10
    by_cases hlt : k < f.cons.length
    · obtain ⟨ag, ao, rfl, hab, hca⟩ := StrsAt.cell (HVC.out.below (hF.1.mono hB)) k hlt
      have C := strG base E _ _ f.cons[k] _ wr (HF.out.cons _ (List.getElem_mem hlt)) (by omega) (by omega) hE
      have hsn := Lib.hid (strs_snoc es0 f.cons k hlt)
      have HK := Lib.hid hF
      clear hE hF
      generalize f.cons[k] = s at C hca hsn
      go_wp2_with fail
      refine C.mono ?_
      rintro e wy ⟨rfl, hE2, G2⟩
      have F2 := HK.out.trans G2
      clear C
      go_wp2_with fail
      go_roundw
      case rel => exact ⟨k + 1, by omega, by go_num, by rw [hsn.out]; exact hE2.mono (by omega) (by omega), F2⟩
      case measure => simp [intOf]; omega
    · have hkl : k = f.cons.length := by omega
      subst hkl
      rw [List.take_length] at hE
      have h11 := hE.mono (kb' := kb + 80) (kt' := kt + 17034) (by omega) (by omega)
      have F11 := hF
      clear hE hF hk
      have hwr : wr = wr := rfl
      clear hwr
      have c11 : wr.cell? ⟨g, 10, none⟩ = some (.slice Ai f.imps.length ci) := CC.out wr F11 10
      have C11 := intG base E _ _ f.imps.length _ wr (by omega) (by omega) h11
      clear h11
      go_wp2_with fail
      refine C11.mono ?_
      rintro e w12 ⟨rfl, h12, G12⟩
      have F12 := F11.trans G12
      clear C11 c11 F11 G12
      have h12 : EG w12 base E ((es0.strs f.cons).int f.imps.length) (kb + 84) (kt + 17034) := h12.mono (by omega) (by omega)
      generalize hES1 : (es0.strs f.cons).int f.imps.length = es1 at h12
      have HES1 := Lib.hid hES1
      clear hES1
      have c12 : w12.cell? ⟨g, 10, none⟩ = some (.slice Ai f.imps.length ci) := CC.out w12 F12 10
      go_wp2_with fail
      go_loopw [7, 98] (fun _ i wr => ∃ k : Nat, k ≤ f.imps.length ∧ i = .int .i64 k ∧ EG wr base E (es1.dirs (f.imps.take k)) (kb + 84 + k * 20) (kt + 17034 + k * 2004) ∧ Fr base E w wr) (fun _ i _ => f.imps.length - (intOf i).toNat)
      case atStart => exact ⟨0, Nat.zero_le _, rfl, h12.mono (by omega) (by omega), F12⟩
      case round =>
        obtain ⟨k, hk, rfl, hE, hF⟩ := hrel
        clear c12 h12 F12
        by_cases hlt : k < f.imps.length
        · obtain ⟨ag, ao, rfl, hab, hc0, hc1, hc2, hc3, hc4⟩ := DirsAt.cells (HVI.out.below (hF.1.mono hB)) k hlt
          have hdk := HF.out.imps _ (List.getElem_mem hlt)
          have hsn := Lib.hid (dirs_snoc es1 f.imps k hlt)
          generalize f.imps[k] = d at hc0 hc1 hc2 hc3 hc4 hdk hsn
          obtain ⟨hd0, hd1⟩ := hdk
          have hA := hE.new (.cells (dirCells d).toArray 82)
          have hE1 := hE.alloc (.cells (dirCells d).toArray 82)
          have hbl := Blk.new wr 82 (dirCells d).toArray
          have hF1 := hF.alloc (Nat.le_trans hE.lt.1 (Nat.le_of_lt hE.lt.2)) (.cells (dirCells d).toArray 82)
          generalize hW : wr.alloc (.cells (dirCells d).toArray 82) = wa at hA hE1 hbl hF1
          have HW := Lib.hid hW
          have C := strG base E _ _ d.text _ wa hd0 (by omega) (by omega) hE1
          clear hW hE hF hE1
          go_wp2_with fail
          rw [show wr.alloc (.cells #[Value.string d.text, Value.string d.at_.fn, Value.int IntKind.i64 d.at_.o, Value.int IntKind.i64 d.at_.l, Value.int IntKind.i64 d.at_.c] 82) = wa from HW.out]
          refine C.mono ?_
          rintro e wb ⟨rfl, hE2, G2⟩
          clear C
          have hbl2 : Blk wb wr.heap.size 82 (dirCells d).toArray := (G2.2 _ hA).2.trans hbl
          have k1 : wb.cell? ⟨wr.heap.size, 1, none⟩ = some (.string d.at_.fn) := hbl2.cell 1
          have k2 : wb.cell? ⟨wr.heap.size, 2, none⟩ = some (.int .i64 d.at_.o) := hbl2.cell 2
          have k3 : wb.cell? ⟨wr.heap.size, 3, none⟩ = some (.int .i64 d.at_.l) := hbl2.cell 3
          have k4 : wb.cell? ⟨wr.heap.size, 4, none⟩ = some (.int .i64 d.at_.c) := hbl2.cell 4
          have C := posG base E _ _ d.at_ _ wb hd1 (by omega) (by omega) hE2
          have F2 := hF1.trans G2
          clear hbl hbl2 hF1 G2 hE2
          go_wp2_with fail
          refine C.mono ?_
          rintro e wc ⟨rfl, hE3, G3⟩
          have F3 := F2.trans G3
          clear C F2 G3
          go_wp2_with fail
          go_roundw
          case rel => exact ⟨k + 1, by omega, by go_num, by rw [hsn.out]; exact hE3.mono (by omega) (by omega), F3⟩
          case measure => simp [intOf]; omega
        · have hkl : k = f.imps.length := by omega
          subst hkl
          rw [List.take_length] at hE
          have h13 := hE.mono (kb' := kb + 284) (kt' := kt + 37074) (by omega) (by omega)
          have F13 := hF
          clear hE hF hk
          have hwr : wr = wr := rfl
          clear hwr
          have c13 : wr.cell? ⟨g, 11, none⟩ = some (.slice Ae f.embs.length ce) := CC.out wr F13 11
          have C13 := intG base E _ _ f.embs.length _ wr (by omega) (by omega) h13
          clear h13
          go_wp2_with fail
          refine C13.mono ?_
          rintro e w14 ⟨rfl, h14, G14⟩
          have F14 := F13.trans G14
          clear C13 c13 F13 G14
          have h14 : EG w14 base E ((es1.dirs f.imps).int f.embs.length) (kb + 288) (kt + 37074) := h14.mono (by omega) (by omega)
          generalize hES2 : (es1.dirs f.imps).int f.embs.length = es2 at h14
          have HES2 := Lib.hid hES2
          clear hES2
          have c14 : w14.cell? ⟨g, 11, none⟩ = some (.slice Ae f.embs.length ce) := CC.out w14 F14 11
          go_wp2_with fail
          go_loopw [9, 123] (fun _ i wr => ∃ k : Nat, k ≤ f.embs.length ∧ i = .int .i64 k ∧ EG wr base E (es2.dirs (f.embs.take k)) (kb + 288 + k * 20) (kt + 37074 + k * 2004) ∧ Fr base E w wr) (fun _ i _ => f.embs.length - (intOf i).toNat)
          case atStart => exact ⟨0, Nat.zero_le _, rfl, h14.mono (by omega) (by omega), F14⟩
          case round =>
            obtain ⟨k, hk, rfl, hE, hF⟩ := hrel
            clear c14 h14 F14
            by_cases hlt : k < f.embs.length
            · obtain ⟨ag, ao, rfl, hab, hc0, hc1, hc2, hc3, hc4⟩ := DirsAt.cells (HVE.out.below (hF.1.mono hB)) k hlt
              have hdk := HF.out.embs _ (List.getElem_mem hlt)
              have hsn := Lib.hid (dirs_snoc es2 f.embs k hlt)
              generalize f.embs[k] = d at hc0 hc1 hc2 hc3 hc4 hdk hsn
              obtain ⟨hd0, hd1⟩ := hdk
              have hA := hE.new (.cells (dirCells d).toArray 84)
              have hE1 := hE.alloc (.cells (dirCells d).toArray 84)
              have hbl := Blk.new wr 84 (dirCells d).toArray
              have hF1 := hF.alloc (Nat.le_trans hE.lt.1 (Nat.le_of_lt hE.lt.2)) (.cells (dirCells d).toArray 84)
              generalize hW : wr.alloc (.cells (dirCells d).toArray 84) = wa at hA hE1 hbl hF1
              have HW := Lib.hid hW
              have C := strG base E _ _ d.text _ wa hd0 (by omega) (by omega) hE1
              clear hW hE hF hE1
              go_wp2_with fail
              rw [show wr.alloc (.cells #[Value.string d.text, Value.string d.at_.fn, Value.int IntKind.i64 d.at_.o, Value.int IntKind.i64 d.at_.l, Value.int IntKind.i64 d.at_.c] 84) = wa from HW.out]
              refine C.mono ?_
              rintro e wb ⟨rfl, hE2, G2⟩
              clear C
              have hbl2 : Blk wb wr.heap.size 84 (dirCells d).toArray := (G2.2 _ hA).2.trans hbl
              have k1 : wb.cell? ⟨wr.heap.size, 1, none⟩ = some (.string d.at_.fn) := hbl2.cell 1
              have k2 : wb.cell? ⟨wr.heap.size, 2, none⟩ = some (.int .i64 d.at_.o) := hbl2.cell 2
              have k3 : wb.cell? ⟨wr.heap.size, 3, none⟩ = some (.int .i64 d.at_.l) := hbl2.cell 3
              have k4 : wb.cell? ⟨wr.heap.size, 4, none⟩ = some (.int .i64 d.at_.c) := hbl2.cell 4
              have C := posG base E _ _ d.at_ _ wb hd1 (by omega) (by omega) hE2
              have F2 := hF1.trans G2
              clear hbl hbl2 hF1 G2 hE2
              go_wp2_with fail
              refine C.mono ?_
              rintro e wc ⟨rfl, hE3, G3⟩
              have F3 := F2.trans G3
              clear C F2 G3
              go_wp2_with fail
              go_roundw
              case rel => exact ⟨k + 1, by omega, by go_num, by rw [hsn.out]; exact hE3.mono (by omega) (by omega), F3⟩
              case measure => simp [intOf]; omega
            · have hkl : k = f.embs.length := by omega
              subst hkl
              rw [List.take_length] at hE
              have h15 := hE.mono (kb' := kb + 488) (kt' := kt + 57114) (by omega) (by omega)
              have F15 := hF
              clear hE hF hk
              have hwr : wr = wr := rfl
              clear hwr
              have c15 : wr.cell? ⟨g, 12, none⟩ = some (.slice Ad f.dirs.length cd) := CC.out wr F15 12
              have C15 := intG base E _ _ f.dirs.length _ wr (by omega) (by omega) h15
              clear h15
              go_wp2_with fail
              refine C15.mono ?_
              rintro e w16 ⟨rfl, h16, G16⟩
              have F16 := F15.trans G16
              clear C15 c15 F15 G16
              have h16 : EG w16 base E ((es2.dirs f.embs).int f.dirs.length) (kb + 492) (kt + 57114) := h16.mono (by omega) (by omega)
              generalize hES3 : (es2.dirs f.embs).int f.dirs.length = es3 at h16
              have HES3 := Lib.hid hES3
              clear hES3
              have c16 : w16.cell? ⟨g, 12, none⟩ = some (.slice Ad f.dirs.length cd) := CC.out w16 F16 12
              go_wp2_with fail
              go_loopw [11, 148] (fun _ i wr => ∃ k : Nat, k ≤ f.dirs.length ∧ i = .int .i64 k ∧ EG wr base E (es3.dirs (f.dirs.take k)) (kb + 492 + k * 20) (kt + 57114 + k * 2004) ∧ Fr base E w wr) (fun _ i _ => f.dirs.length - (intOf i).toNat)
              case atStart => exact ⟨0, Nat.zero_le _, rfl, h16.mono (by omega) (by omega), F16⟩
              case round =>
                obtain ⟨k, hk, rfl, hE, hF⟩ := hrel
                clear c16 h16 F16
                by_cases hlt : k < f.dirs.length
                · obtain ⟨ag, ao, rfl, hab, hc0, hc1, hc2, hc3, hc4⟩ := DirsAt.cells (HVD.out.below (hF.1.mono hB)) k hlt
                  have hdk := HF.out.dirs _ (List.getElem_mem hlt)
                  have hsn := Lib.hid (dirs_snoc es3 f.dirs k hlt)
                  generalize f.dirs[k] = d at hc0 hc1 hc2 hc3 hc4 hdk hsn
                  obtain ⟨hd0, hd1⟩ := hdk
                  have hA := hE.new (.cells (dirCells d).toArray 80)
                  have hE1 := hE.alloc (.cells (dirCells d).toArray 80)
                  have hbl := Blk.new wr 80 (dirCells d).toArray
                  have hF1 := hF.alloc (Nat.le_trans hE.lt.1 (Nat.le_of_lt hE.lt.2)) (.cells (dirCells d).toArray 80)
                  generalize hW : wr.alloc (.cells (dirCells d).toArray 80) = wa at hA hE1 hbl hF1
                  have HW := Lib.hid hW
                  have C := strG base E _ _ d.text _ wa hd0 (by omega) (by omega) hE1
                  clear hW hE hF hE1
                  go_wp2_with fail
                  rw [show wr.alloc (.cells #[Value.string d.text, Value.string d.at_.fn, Value.int IntKind.i64 d.at_.o, Value.int IntKind.i64 d.at_.l, Value.int IntKind.i64 d.at_.c] 80) = wa from HW.out]
                  refine C.mono ?_
                  rintro e wb ⟨rfl, hE2, G2⟩
                  clear C
                  have hbl2 : Blk wb wr.heap.size 80 (dirCells d).toArray := (G2.2 _ hA).2.trans hbl
                  have k1 : wb.cell? ⟨wr.heap.size, 1, none⟩ = some (.string d.at_.fn) := hbl2.cell 1
                  have k2 : wb.cell? ⟨wr.heap.size, 2, none⟩ = some (.int .i64 d.at_.o) := hbl2.cell 2
                  have k3 : wb.cell? ⟨wr.heap.size, 3, none⟩ = some (.int .i64 d.at_.l) := hbl2.cell 3
                  have k4 : wb.cell? ⟨wr.heap.size, 4, none⟩ = some (.int .i64 d.at_.c) := hbl2.cell 4
                  have C := posG base E _ _ d.at_ _ wb hd1 (by omega) (by omega) hE2
                  have F2 := hF1.trans G2
                  clear hbl hbl2 hF1 G2 hE2
                  go_wp2_with fail
                  refine C.mono ?_
                  rintro e wc ⟨rfl, hE3, G3⟩
                  have F3 := F2.trans G3
                  clear C F2 G3
                  go_wp2_with fail
                  go_roundw
                  case rel => exact ⟨k + 1, by omega, by go_num, by rw [hsn.out]; exact hE3.mono (by omega) (by omega), F3⟩
                  case measure => simp [intOf]; omega
                · have hkl : k = f.dirs.length := by omega
                  subst hkl
                  rw [List.take_length] at hE
                  have h17 := hE.mono (kb' := kb + 692) (kt' := kt + 77154) (by omega) (by omega)
                  have F17 := hF
                  clear hE hF hk
                  have hwr : wr = wr := rfl
                  clear hwr
                  go_wp2_with fail
                  refine bodyPost_end (results_none rfl _ _ _) rfl ?_
                  refine ⟨rfl, ?_, F17⟩
                  have he : es.file f = es3.dirs f.dirs := by
                    unfold ES.file
                    rw [HES0.out, HES1.out, HES2.out, HES3.out]
                  rw [he]
                  exact h17.mono (by omega) (by omega)
end Go.Proofs.YtanfimeajalffaaDoor
