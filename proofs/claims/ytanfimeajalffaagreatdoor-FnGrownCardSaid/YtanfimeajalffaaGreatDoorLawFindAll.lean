/-
  FnFindAll: the law returns true, and leaves what was there. Conditions: packages as they lie in memory, the package's error laid.
-/
import Derived.Test.YtanfimeajalffaaGreatDoorPlace
namespace Go.Proofs.YtanfimeajalffaaGreatDoor
open Go.RowKit
attribute [local go_sem ↓] Go.wp_at_zero Go.wp_at_succ

/-- The package that is found by a package's folder is that package. -/
theorem Its.self {ps : List PkgD} {p q : PkgD} (h : Its ps p.dir q) (hst : Strict ps) (hp : p ∈ ps) : q = p := by
  obtain ⟨k, hk, rfl⟩ := List.getElem_of_mem hp
  exact h.at_ hst k hk rfl

set_option maxHeartbeats 4000000 in
set_option maxRecDepth 100000 in
theorem fnFindAll_any (u : Value) (xs : List PkgD) (ga oa : Nat) (w : World) (hl1 : xs.length ≤ 9223372036854775807) (hw1 : ∀ p ∈ xs, p.Wide) (hx : PkgsAt w w.heap.size u xs) (hC : Cannot w ga oa) :
    Calls Tryz.prog 6 #[u] w fun e w' => e = .returned (.bool true) ∧ Below w.heap.size w w' := by
  have hX := fun (W : World) (h : Below w.heap.size w W) => PkgsAt.below hx h
  have F1 := Lib.hid (fun (W : World) (h : Below w.heap.size w W) => fits1_any w.heap.size u xs W h.size hl1 hw1 (hX W h))
  have O1 := Lib.hid (fun (W : World) (h : Below w.heap.size w W) => indexOk_any w.heap.size u xs W h.size hl1 hw1 (hX W h))
  have E1 := Lib.hid (fun (W : World) (h : Below w.heap.size w W) (hok : PkgsOk xs) => encode_any w.heap.size u xs W h.size hok (hX W h))
  have HX := Lib.hid hX
  have HW := Lib.hid hw1
  obtain ⟨A, c, rfl⟩ := ListAt.form hx
  have hb0 : Below w.heap.size w w := Below.refl _ _
  have HC := Lib.hid hC
  clear hC
  clear hx hX hw1
  go_enter Tryz.func6, Tryz.ntmps6
  go_wp2_with fail
  refine (F1.out _ hb0).mono ?_
  rintro e w1 ⟨b1, rfl, hc1⟩
  have hb1 := hb0.trans (hc1.mono hb0.size)
  clear hc1
  cases b1
  case' false =>
    go_wp2_with fail
    go_ret
    exact ⟨rfl, hb1⟩
  go_wp2_with fail
  refine (O1.out _ hb1).mono ?_
  rintro e w3 ⟨b3, rfl, hc3, hs3⟩
  have hb3 := hb1.trans (hc3.mono hb1.size)
  have HS3 := Lib.hid hs3
  clear hc3 hs3
  cases b3
  case' false =>
    go_wp2_with fail
    go_ret
    exact ⟨rfl, hb3⟩
  have hp1 := (HS3.out (by simp)).1
  have HST := Lib.hid (HS3.out (by simp)).2
  have hl2 := hp1.len
  have HP := Lib.hid hp1
  have HIX := Lib.hid (enc_is xs hp1)
  have hpos := enc_pos xs hp1
  have D1 := Lib.hid (fun W h => E1.out W h hp1)
  have hp0 := hpos.1
  have hp8 := hpos.2
  clear HS3 hp1 hpos hb0 hb1 hl1
  generalize enc xs = l at *
  go_wp2_with fail
  refine (D1.out _ hb3).mono ?_
  rintro e w5 ⟨v1, rfl, ho1, hc5⟩
  have hb5 := hb3.trans (hc5.mono hb3.size)
  obtain ⟨A1, c1, rfl⟩ := own_form' ho1
  have HB5 := Lib.hid hb5
  have HO1 := Lib.hid ho1
  clear hc5 D1 hb3 hb5 ho1
  have DO := Lib.hid (implDecode_ok _ l xs w5 (bs_of_own HO1.out) HIX.out hl2 HP.out.each (by omega))
  go_wp2_with fail
  refine DO.out.mono ?_
  rintro e w6 ⟨A6, c6, rfl, ho6, hb6⟩
  have HPA := Lib.hid (show PkgsAt w6 w6.heap.size (.slice A6 xs.length c6) xs from ho6.t.at_.imp fun _ _ h => h.r)
  have hb60 := HB5.out.trans (hb6.mono HB5.out.size)
  have FI := Lib.hid (fun (W : World) (d : ByteArray) (h : Below w6.heap.size w6 W) => implFind_ok (.slice A1 l.length c1) l xs d ga oa W ((bs_of_own (own_below HO1.out hb6)).below h) HIX.out hl2 HP.out.each HST.out (HC.out.below (hb60.trans (h.mono hb60.size))) (by omega))
  have HB6 := Lib.hid hb60
  clear ho6 hb6 DO hb60
  go_wp2_with fail
  go_loopw [34] (fun i wr => ∃ k : Nat, k ≤ xs.length ∧ i = .int .i64 k ∧ Below w6.heap.size w6 wr) (fun i _ => xs.length - (intOf i).toNat)
  case atStart => exact ⟨0, Nat.zero_le _, rfl, Below.refl _ _⟩
  case round =>
    obtain ⟨k, hk, rfl, hF⟩ := hrel
    have hsz := hF.size
    by_cases hlt : k < xs.length
    · have hpr := PkgsAt.below HPA.out hF
      obtain ⟨gp, op, cs, rfl, hgp, _, hRk, hcell⟩ := hpr.get (by omega) k hlt
      have hRk2 := hRk
      obtain ⟨vf, rfl, hfs⟩ := hRk
      have c0 : wr.cell? ⟨gp, op + k * 3, none⟩ = some (.string xs[k].err) := hcell 0 _ rfl
      have c1' : wr.cell? ⟨gp, op + k * 3 + 1, none⟩ = some (.string xs[k].dir) := hcell 1 _ rfl
      have c2 : wr.cell? ⟨gp, op + k * 3 + 2, none⟩ = some vf := hcell 2 _ rfl
      obtain ⟨Af, cf, rfl⟩ := hfs.form
      have hmem := List.getElem_mem hlt
      have hWp := HW.out _ hmem
      have HME := Lib.hid hmem
      have HRK := Lib.hid hRk2
      clear hcell hfs hpr hRk2 hmem
      generalize xs[k] = p at *
      obtain ⟨W7, HW7⟩ : ∃ W7, W7 = wr.alloc (.cells #[.string p.err, .string p.dir, .slice Af p.files.length cf] 32) := ⟨_, rfl⟩
      have hb7 : Below wr.heap.size wr W7 := by rw [HW7]; exact (Below.refl _ _).alloc (Nat.le_refl _) _
      have hp7 : Blk W7 wr.heap.size 32 #[.string p.err, .string p.dir, .slice Af p.files.length cf] := by rw [HW7]; exact Blk.new _ _ _
      have hF7 := hF.trans (hb7.mono hsz)
      have CF := Lib.hid (FI.out W7 p.dir hF7)
      have HF7 := Lib.hid hF7
      have HP7 := Lib.hid hp7
      have HB7 := Lib.hid hb7
      have HWE := Lib.hid HW7
      clear hb7 hp7 hF7 HW7
      go_wp2_with fail
      rw [show wr.alloc (.cells #[.string p.err, .string p.dir, .slice Af p.files.length cf] 32) = W7 from HWE.out.symm]
      refine CF.out.mono ?_
      rintro e w8 ⟨A8, c8, q, rfl, hpt, hb8, hits⟩
      obtain rfl := hits.self HST.out HME.out
      obtain ⟨W9, HW9⟩ : ∃ W9, W9 = w8.alloc (.cells #[.string q.err, .string q.dir, .slice A8 q.files.length c8] 32) := ⟨_, rfl⟩
      have hb9 : Below w8.heap.size w8 W9 := by rw [HW9]; exact (Below.refl _ _).alloc (Nat.le_refl _) _
      have hp9 : Blk W9 w8.heap.size 32 #[.string q.err, .string q.dir, .slice A8 q.files.length c8] := by rw [HW9]; exact Blk.new _ _ _
      have hb79 := hb8.trans (hb9.mono hb8.size)
      have hsz8 : wr.heap.size < w8.heap.size := Nat.lt_of_lt_of_le HP7.out.lt hb8.size
      have hq8 := HP7.out.below hb8 HP7.out.lt
      have e0 : w8.cell? ⟨wr.heap.size, 0, none⟩ = some (.string q.err) := hq8.cell 0
      have e1 : w8.cell? ⟨wr.heap.size, 1, none⟩ = some (.string q.dir) := hq8.cell 1
      have e2 : w8.cell? ⟨wr.heap.size, 2, none⟩ = some (.slice Af q.files.length cf) := hq8.cell 2
      have hF9 := HF7.out.trans (hb79.mono HF7.out.size)
      have hk9 : PkgR W9 w8.heap.size [.string q.err, .string q.dir, .slice Af q.files.length cf] q := (HRK.out.below ((HB7.out.trans (hb79.mono HB7.out.size)).mono hsz)).more (by omega)
      have S9 := Lib.hid (samePkg_any w8.heap.size [.string q.err, .string q.dir, .slice A8 q.files.length c8] [.string q.err, .string q.dir, .slice Af q.files.length cf] q q W9 hb9.size hWp ((PkgT.r hpt).below hb9) hk9)
      have HF9 := Lib.hid hF9
      have HWE9 := Lib.hid HW9
      clear hpt hb8 hits hb9 hp9 hb79 hq8 hF9 hk9 HW9 CF c0 c1' c2
      go_wp2_with fail
      rw [show w8.alloc (.cells #[.string q.err, .string q.dir, .slice A8 q.files.length c8] 32) = W9 from HWE9.out.symm]
      refine S9.out.mono ?_
      rintro e w10 ⟨bb, rfl, hb10, hiff⟩
      have hbt : bb = true := by simpa using hiff
      subst hbt
      have HF10 := Lib.hid (HF9.out.trans (hb10.mono HF9.out.size))
      clear hb10 hiff
      go_wp2_with fail
      go_roundw
      case rel => exact ⟨k + 1, by omega, by go_num, HF10.out⟩
      case measure => simp [intOf]; omega
    · have HBL := Lib.hid (HB6.out.trans (hF.mono HB6.out.size))
      go_wp2_with fail
      go_ret
      exact ⟨rfl, HBL.out⟩
end Go.Proofs.YtanfimeajalffaaGreatDoor
