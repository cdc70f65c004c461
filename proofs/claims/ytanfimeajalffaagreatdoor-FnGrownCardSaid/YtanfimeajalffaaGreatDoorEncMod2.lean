/-
  The contract of encodeModuleBytes: the walk.
-/
import Derived.Test.YtanfimeajalffaaGreatDoorEncMod
import Derived.Lib.SmallJoins
namespace Go.Proofs.YtanfimeajalffaaGreatDoor
open Go.RowKit

/-- The cells of the text that an index begins with. -/
abbrev magicCs : Array Value := #[.int .u8 103, .int .u8 111, .int .u8 32, .int .u8 105, .int .u8 110, .int .u8 100, .int .u8 101, .int .u8 120, .int .u8 32, .int .u8 118, .int .u8 50, .int .u8 10]

theorem reads_magic (w : World) : Reads (w.alloc (.cells magicCs 5 (12, 13))) (w.heap.size + 1) 1 (some ⟨w.heap.size, 0, none⟩) 12 (Lib.byteCells magic) := by
  have hml : Lib.byteCells magic = magicCs.toList := by simp [Lib.byteCells, magic]
  rw [hml]
  refine ⟨rfl, fun _ => ⟨_, rfl, by simp, fun j u hj => ?_⟩⟩
  have hadd : (⟨w.heap.size, 0, none⟩ : Addr).add j = ⟨w.heap.size, j, none⟩ := by unfold Addr.add; split <;> simp_all
  rw [hadd, World.cell?_alloc_mark]
  simpa using hj

set_option maxHeartbeats 16000000 in
set_option maxRecDepth 100000 in
theorem module_any (c : Nat) (A : Option Addr) (ps : List PkgD) (w : World) (ho : PkgsOk ps) (hr : RawPkgsAt w w.heap.size A ps) :
    Calls Tryz.prog 32 #[.slice A ps.length c] w fun e w' => ∃ v', e = .returned v' ∧ w'.ownsRow w.heap.size 5 1 v' (enc ps).length (Lib.byteCells (enc ps)) ∧ Below w.heap.size w w' := by
  have HR := Lib.hid hr
  have HO := Lib.hid ho
  have HL := ho.len
  clear ho hr
  have C0 := newEncoder_any w
  go_enter Tryz.func32, Tryz.ntmps32
  go_wp2_with fail
  refine C0.mono ?_
  rintro e w1 ⟨E, rfl, h1, B1⟩
  clear C0
  have hconv := Joins.run_convert_bytes_const_at (P := Tryz.prog) w1 26 5 magicCs 12 12 w1.heap.size rfl Tryz.underlying26 Tryz.underlying5
  have C1 := bytesG w.heap.size E 0 1 12 (w1.heap.size + 1) (some ⟨w1.heap.size, 0, none⟩) magic es0 _ (by decide) (by omega) (reads_magic w1) (h1.alloc (.cells magicCs 5 (12, 13)))
  have F1 : Fr w.heap.size E w1 w1 := Fr.refl _ _ _
  have F1a := F1.alloc (Nat.le_trans h1.lt.1 (Nat.le_of_lt h1.lt.2)) (.cells magicCs 5 (12, 13))
  clear h1 F1
  go_wp2_with fail
  refine C1.mono ?_
  rintro e w2 ⟨rfl, h2, G2⟩
  have F2 := F1a.trans G2
  clear C1 F1a G2
  have C2 := pos_any _ _ _ _ h2.1
  rw [show (es0.bytes magic).b.length = 12 from rfl] at C2
  have C3 := uint32G _ _ _ _ 0 _ _ (by omega) (by decide) h2
  clear h2
  go_wp2_with fail
  refine C2.mono ?_
  rintro e w2' ⟨rfl, rfl⟩
  clear C2
  go_wp2_with fail
  refine C3.mono ?_
  rintro e w3 ⟨rfl, h3, G3⟩
  have F3 := F2.trans G3
  clear C3 F2 G3
  have B3 := B1.trans F3.1
  obtain ⟨gs, hgA, hS⟩ := (HR.out.below B3).sorted HO.out
  have C4 := sort_any w.heap.size gs ps.length c A w3 (by omega) hgA hS
  clear hgA hS
  go_wp2_with fail
  refine C4.mono ?_
  rintro e w4 ⟨rfl, kd, rfl⟩
  clear C4
  have h4 := h3.drewN kd
  have F4 := F3.drewN kd
  generalize w3.drewN kd = w4 at h4 F4
  clear h3 F3 B3
  have C5 := intG _ _ _ _ ps.length _ _ (by omega) (by decide) h4
  clear h4
  go_wp2_with fail
  refine C5.mono ?_
  rintro e w5 ⟨rfl, h5, G5⟩
  have F5 := F4.trans G5
  clear C5 F4 G5
  have C6 := pos_any _ _ _ _ h5.1
  have hl3 : (((es0.bytes magic).int 0).int ps.length).b.length = 20 := by rw [int_b, int_b]; rfl
  rw [hl3] at C6
  have HENC : Hid (encS ps = ((((es0.bytes magic).int 0).int ps.length).tab ps).pkgsTo 20 ps ps.length) := Lib.hid rfl
  generalize ((es0.bytes magic).int 0).int ps.length = e3 at h5 C6 hl3 HENC
  have h5' := h5.mono (kb' := 20) (kt' := 1) (by decide) (by omega)
  clear h5 hconv
  go_wp2_with fail
  refine C6.mono ?_
  rintro e w6 ⟨rfl, rfl⟩
  clear C6
  go_wp2_with fail
  go_loopw [7, 29] (fun _ i wr => ∃ k : Nat, k ≤ ps.length ∧ i = .int .i64 k ∧ EG wr w.heap.size E (e3.tab (ps.take k)) (20 + 8 * k) (1 + 1002 * k) ∧ Fr w.heap.size E w1 wr) (fun _ i _ => ps.length - (intOf i).toNat)
  case atStart => exact ⟨0, Nat.zero_le _, rfl, h5', F5⟩
  case round =>
    obtain ⟨k, hk, rfl, hE, hF⟩ := hrel
    clear h5' F5
    by_cases hlt : k < ps.length
    · obtain ⟨gA, u, rfl, hgA, hcA, gp, vf, rfl, hgp, hbp, _⟩ := (HR.out.below (B1.trans hF.1)).at_ k hlt
      have hcd : wr.cell? ⟨gp, 1, none⟩ = some (.string ps[k].dir) := hbp.cell 1
      have hsn := Lib.hid (tab_snoc e3 ps k hlt)
      have hok := (HO.out.each _ (List.getElem_mem hlt)).dir
      clear hbp
      generalize ps[k].dir = d at hcd hsn hok
      have C7 := strG _ _ _ _ d _ _ hok (by omega) (by omega) hE
      clear hE
      go_wp2_with fail
      refine C7.mono ?_
      rintro e wy ⟨rfl, hE2, G2⟩
      have F2 := hF.trans G2
      have C8 := intG _ _ _ _ 0 _ _ (by omega) (by omega) hE2
      clear C7 hE2 G2 hF
      go_wp2_with fail
      refine C8.mono ?_
      rintro e wz ⟨rfl, hE3, G3⟩
      have F3 := F2.trans G3
      clear C8 G3 F2
      go_wp2_with fail
      go_roundw
      case rel => exact ⟨k + 1, by omega, by go_num, by rw [hsn.out]; exact hE3.mono (by omega) (by omega), F3⟩
      case measure => simp [intOf]; omega
    · have hkl : k = ps.length := by omega
      subst hkl
      rw [List.take_length] at hE
      have hzb := tab_b e3 ps
      generalize e3.tab ps = ez at hE hzb HENC
      go_wp2_with fail
      go_loopw [8, 9, 44] (fun _ _ i wr => ∃ k : Nat, k ≤ ps.length ∧ i = .int .i64 k ∧ EG wr w.heap.size E (ez.pkgsTo 20 ps k) (100 + 20000 * k) (10021 + 1100000 * k) ∧ Fr w.heap.size E w1 wr ∧ ez.b.length ≤ (ez.pkgsTo 20 ps k).b.length) (fun _ _ i _ => ps.length - (intOf i).toNat)
      case atStart => exact ⟨0, Nat.zero_le _, rfl, hE.mono (by omega) (by omega), hF, Nat.le_refl _⟩
      case round =>
        obtain ⟨k, hk2, rfl, hEx, hFx, hlb⟩ := hrel
        clear hE hF
        by_cases hlt2 : k < ps.length
        · obtain ⟨gA, u, rfl, hgA, hcA, hru⟩ := (HR.out.below (B1.trans hFx.1)).at_ k hlt2
          have hsn := Lib.hid (pkgsTo_succ ez 20 ps k hlt2)
          have hok := HO.out.each _ (List.getElem_mem hlt2)
          have hbl := hEx.2.2.1
          generalize ps[k] = p at hru hsn hok
          have hpb := pkg_b ((ez.pkgsTo 20 ps k).patch (20 + 8 * k + 4) (ez.pkgsTo 20 ps k).b.length) p
          have hpp : ((ez.pkgsTo 20 ps k).patch (20 + 8 * k + 4) (ez.pkgsTo 20 ps k).b.length).b.length = (ez.pkgsTo 20 ps k).b.length := patch_length _ _ _
          have C := pos_any _ _ _ wr hEx.1
          have C2 := patchG _ _ _ _ (ez.pkgsTo 20 ps k).b.length (20 + 8 * k + 4) _ wr (by omega) (by omega) (by omega) hEx
          generalize ez.pkgsTo 20 ps k = ek at hEx C C2 hsn hlb hbl hpb hpp
          have HRU := Lib.hid (fun wz (h : Fr w.heap.size E wr wz) => hru.below h.1)
          obtain ⟨gp, vf, rfl, _⟩ := hru
          generalize hLk : ek.b.length = lk at *
          have HLk := Lib.hid hLk
          clear hLk hEx
          go_wp2_with fail
          refine C.mono ?_
          rintro e wy ⟨rfl, rfl⟩
          clear C
          go_wp2_with fail
          refine C2.mono ?_
          rintro e wy ⟨rfl, hE2, G2⟩
          have C3 := pkgG _ _ _ _ w.heap.size p _ _ wy (Nat.le_refl _) hok (HRU.out wy G2) (by omega) (by omega) hE2
          have F5 := hFx.trans G2
          clear hE2 G2 hFx C2
          go_wp2_with fail
          refine C3.mono ?_
          rintro e wz ⟨rfl, hE3, G3⟩
          have F6 := F5.trans G3
          clear C3 F5 G3
          go_wp2_with fail
          go_roundw
          case rel => exact ⟨k + 1, by omega, by go_num, by rw [hsn.out]; exact hE3.mono (by omega) (by omega), F6, by rw [hsn.out]; omega⟩
          case measure => simp [intOf]; omega
        · have hkl : k = ps.length := by omega
          subst hkl
          rw [← HENC.out] at hEx hlb
          have C := pos_any _ _ _ wr hEx.1
          have hEl := hEx.2.2.1
          have C2 := patchG _ _ _ _ (encS ps).b.length 12 _ wr (by omega) (by omega) (by omega) hEx
          have hT : Hid (enc ps = (((encS ps).patch 12 (encS ps).b.length).bytes (encS ps).t).b ++ [255]) := Lib.hid rfl
          have htl := hEx.2.2.2
          have ht2 : ((encS ps).patch 12 (encS ps).b.length).t = (encS ps).t := rfl
          generalize hx : (encS ps).patch 12 (encS ps).b.length = ex at C2 hT ht2
          generalize (encS ps).b.length = lx at C C2
          generalize (encS ps).t = tt at hT ht2 htl
          clear hx hEx hlb
          go_wp2_with fail
          refine C.mono ?_
          rintro e wy ⟨rfl, rfl⟩
          clear C
          go_wp2_with fail
          refine C2.mono ?_
          rintro e wa ⟨rfl, hE2, G2⟩
          have F2 := hFx.trans G2
          clear C2 hFx G2
          obtain ⟨vt, hct, hownt, _⟩ := hE2.1.field1
          rw [ht2] at hownt
          obtain ⟨At, ct, rfl⟩ := own_form' hownt
          have C3 := bytesG _ _ _ _ ct _ At tt _ wa (by omega) (by omega) (Reads.of_own hownt) hE2
          clear hE2 hownt
          go_wp2_with fail
          refine C3.mono ?_
          rintro e wb ⟨rfl, hE3, G3⟩
          have F3 := F2.trans G3
          have hrf := reads_new wb #[.int .u8 255] 5 1 rfl
          have C4 := bytesG _ _ _ _ 1 (wb.heap.size + 1) (some ⟨wb.heap.size, 0, none⟩) [255] _ _ (by decide) (by omega) hrf (hE3.alloc (.cells #[.int .u8 255] 5))
          have F3a := F3.alloc (Nat.le_trans hE3.lt.1 (Nat.le_of_lt hE3.lt.2)) (.cells #[.int .u8 255] 5)
          clear C3 F2 F3 G3 hE3 hrf hct
          go_wp2_with fail
          refine C4.mono ?_
          rintro e wc ⟨rfl, hE4, G4⟩
          have F4 := F3a.trans G4
          clear C4 F3a G4
          obtain ⟨vb, vt4, M, D, m, hBE, hbE, hbM, hob, _⟩ := hE4.1
          have hc4 : wc.cell? ⟨E, 0, none⟩ = some vb := hBE.cell 0
          obtain ⟨Ab, cb, rfl⟩ := own_form' hob
          have HOB := Lib.hid hob
          have HF4 := Lib.hid (B1.trans F4.1)
          clear hob hBE hE4 F4
          go_wp2_with fail
          go_ret
          exact ⟨_, rfl, by rw [hT.out]; exact HOB.out, HF4.out⟩
end Go.Proofs.YtanfimeajalffaaGreatDoor
