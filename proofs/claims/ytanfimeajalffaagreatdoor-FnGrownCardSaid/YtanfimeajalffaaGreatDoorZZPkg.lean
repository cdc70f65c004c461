/-
  A package of an index as the package's own data: zzPackage. Condition: a package that was looked up (IPkg).
-/
import Derived.Test.YtanfimeajalffaaGreatDoorPkg
import Derived.Test.YtanfimeajalffaaGreatDoorEncode
namespace Go.Proofs.YtanfimeajalffaaGreatDoor
open Go.RowKit
attribute [local go_sem ↓] Go.wp_at_zero Go.wp_at_succ

theorem errText_any (g o : Nat) (s : ByteArray) (w : World) (h : w.cell? ⟨g, o, none⟩ = some (.string s)) :
    Calls Tryz.prog 128 #[.pointer (some ⟨g, o, none⟩)] w fun e w' => e = .returned (.string s) ∧ w = w' := by
  go_enter Tryz.func128, Tryz.ntmps128
  go_wp2_with fail
  go_ret
  exact ⟨rfl, rfl⟩

theorem method_err (a : Addr) (w : World) : (method 296 144 (.pointer (some a)) "Error").run Tryz.prog w = .ok (128, .pointer (some a)) w := by kernel_rfl

set_option maxHeartbeats 8000000 in
set_option maxRecDepth 100000 in
theorem zzPackage_any (gp gd : Nat) (p : PkgD) (b t : List UInt8) (w : World) (hd : DecAt w gd b t) (hp : IPkg w gp gd b t p) (hok : p.Ok) :
    Calls Tryz.prog 28 #[.pointer (some ⟨gp, 0, none⟩)] w fun e w' => ∃ cs, e = .returned (.agg cs.toArray) ∧ PkgT w' w'.heap.size 56 90 cs p ∧ Below w.heap.size w w' := by
  obtain ⟨i0, hi0, hz0, hz1, hz2⟩ := info_parts' mfile_info
  obtain ⟨i1, hi1, hz3, hz4, hz5⟩ := info_parts' dir_info
  obtain ⟨ev, r, vs, hb, he, A, c, us, rfl, hrd, hsf⟩ := hp
  have c0 : w.cell? ⟨gp, 0, none⟩ = some ev := hb.cell 0
  have c1 : w.cell? ⟨gp, 1, none⟩ = some (.string p.dir) := hb.cell 1
  have c3 : w.cell? ⟨gp, 3, none⟩ = some (.slice A p.files.length c) := hb.cell 3
  have hgp := hb.lt
  have HD := Lib.hid hd
  have HRD := Lib.hid hrd
  have HSF := Lib.hid hsf
  have HOK := Lib.hid hok
  have hfl := hok.filesL
  clear hb hd hrd hsf hok
  obtain ⟨W1, HW1⟩ : ∃ W1, W1 = (w.alloc (.cells #[.string { data := #[] }, .string { data := #[] }, .slice none 0 0] 52)).alloc (.cells #[.string p.err, .string p.dir, .slice none 0 0] 52) := ⟨_, rfl⟩
  have hB0 : Blk W1 w.heap.size 52 #[.string { data := #[] }, .string { data := #[] }, .slice none 0 0] := by rw [HW1]; exact (Blk.new w _ _).alloc _
  have hB1 : Blk W1 (w.heap.size + 1) 52 #[.string p.err, .string p.dir, .slice none 0 0] := by
    rw [HW1]
    have := Blk.new (w.alloc (.cells #[.string { data := #[] }, .string { data := #[] }, .slice none 0 0] 52)) 52 #[.string p.err, .string p.dir, .slice none 0 0]
    rw [World.size_alloc] at this
    exact this
  have hBel : Below w.heap.size w W1 := by rw [HW1]; exact ((Below.refl _ _).alloc (Nat.le_refl _) _).alloc (by simp) _
  have HB0 := Lib.hid hB0
  have HB1 := Lib.hid hB1
  have HBel := Lib.hid hBel
  have HW := Lib.hid HW1
  clear hB0 hB1 hBel HW1
  rcases he with ⟨he0, rfl⟩ | ⟨he0, ge, oe, rfl, hbe⟩
  case' inl =>
    have HE0 := Lib.hid he0
    clear he0
    go_enter Tryz.func28, Tryz.ntmps28
    go_wp2_with fail
    rw [show (w.alloc (.cells #[.string { data := #[] }, .string { data := #[] }, .slice none 0 0] 52)).alloc (.cells #[.string { data := #[] }, .string p.dir, .slice none 0 0] 52) = W1 by rw [HW.out, HE0.out]; rfl]
  case' inr =>
    have HE0 := Lib.hid he0
    have CE := Lib.hid (fun (W : World) (hW : Below w.heap.size w W) => errText_any ge oe p.err W ((hW.cell (p := ⟨ge, oe, none⟩) (cell_lt hbe)).trans hbe))
    clear he0 hbe
    have hme := method_err
    go_enter Tryz.func28, Tryz.ntmps28
    go_wp2_with fail
    refine (CE.out _ (((Below.refl _ _).alloc (Nat.le_refl _) _).alloc (by simp) _)).mono ?_
    rintro e w1 ⟨rfl, rfl⟩
    go_wp2_with fail
    rw [show (w.alloc (.cells #[.string { data := #[] }, .string { data := #[] }, .slice none 0 0] 52)).alloc (.cells #[.string p.err, .string p.dir, .slice none 0 0] 52) = W1 from HW.out.symm]
    clear hme CE
  all_goals
    clear HW HE0 c0 c1 c3
    go_loopw [32] (fun i wr => ∃ k : Nat, k ≤ p.files.length ∧ i = .int .i64 k ∧ Below w.heap.size w wr ∧ Blk wr w.heap.size 52 #[.string { data := #[] }, .string { data := #[] }, .slice none 0 0] ∧ ∃ v, Blk wr (w.heap.size + 1) 52 #[.string p.err, .string p.dir, v] ∧ ListOwn wr w.heap.size 56 13 (FileT wr wr.heap.size 90) v (p.files.take k)) (fun i _ => p.files.length - (intOf i).toNat)
    case atStart => exact ⟨0, Nat.zero_le _, rfl, HBel.out, HB0.out, _, HB1.out, ListOwn.nil rfl _⟩
    case round =>
      obtain ⟨k, hk, rfl, hF, hb0, v, hb1, hown⟩ := hrel
      clear HB0 HB1 HBel
      obtain ⟨wo, rfl⟩ : ∃ wo : World, wo = wr := ⟨_, rfl⟩
      have hsz := hF.size
      have hb1l := hb1.lt
      by_cases hlt : k < p.files.length
      · obtain ⟨ga, oa, rfl, hga, hcell⟩ := HRD.out.lies (by omega)
        have hul : k < us.length := by have := HRD.out.1; omega
        obtain ⟨gs, pos, hu, hsa, hfi⟩ := HSF.out k us[k] p.files[k] (List.getElem?_eq_getElem hul) (List.getElem?_eq_getElem hlt)
        have ca : wo.cell? ⟨ga, oa + k, none⟩ = some (.pointer (some ⟨gs, 0, none⟩)) := (hF.cell (p := ⟨ga, oa + k, none⟩) hga).trans (by rw [← hu]; exact hcell k _ (List.getElem?_eq_getElem hul))
        have hfok := HOK.out.files _ (List.getElem_mem hlt)
        have hts := Lib.hid (take_snoc' p.files k hlt)
        have hk0 : (0 : Int) ≤ (k : Int) := by omega
        have hk1 : (k : Int) < (p.files.length : Int) := by omega
        generalize p.files[k] = f at hfi hfok hts
        have hSD := fun (W : World) (h : Below wo.heap.size wo W) => (show SfAt W gs gd pos ∧ DecAt W gd b t from ⟨Blk.below (Blk.below hsa hF (Blk.lt hsa)) h (Nat.lt_of_lt_of_le (Blk.lt hsa) hsz), (HD.out.below hF).below h⟩)
        have hq := fun (n : Nat) => hSD (wo.drewN n) (below_dn (Below.refl _ _) n)
        have Q0 := Lib.hid (fun n => sf_error gs gd pos f b t (wo.drewN n) (hq n).1 (hq n).2 hfi.1)
        have Q1 := Lib.hid (fun n => sf_parseError gs gd pos f b t (wo.drewN n) (hq n).1 (hq n).2 hfi.1)
        have Q2 := Lib.hid (fun n => sf_name gs gd pos f b t (wo.drewN n) (hq n).1 (hq n).2 hfi.1)
        have Q3 := Lib.hid (fun n => sf_synopsis gs gd pos f b t (wo.drewN n) (hq n).1 (hq n).2 hfi.1)
        have Q4 := Lib.hid (fun n => sf_pkgName gs gd pos f b t (wo.drewN n) (hq n).1 (hq n).2 hfi.1)
        have Q5 := Lib.hid (fun n => sf_ignoreFile gs gd pos f b t (wo.drewN n) (hq n).1 (hq n).2 hfi.1)
        have Q6 := Lib.hid (fun n => sf_binaryOnly gs gd pos f b t (wo.drewN n) (hq n).1 (hq n).2 hfi.1)
        have Q7 := Lib.hid (fun n => sf_cgoDirectives gs gd pos f b t (wo.drewN n) (hq n).1 (hq n).2 hfi.1)
        have Q8 := Lib.hid (fun n => sf_goBuildConstraint gs gd pos f b t (wo.drewN n) (hq n).1 (hq n).2 hfi.1)
        have QC := Lib.hid (fun (W : World) (h : Below wo.heap.size wo W) => sf_cons gs gd pos f b t W (hSD W h).1 (hSD W h).2 hfi hfok)
        have QD := Lib.hid (fun (W : World) (h : Below wo.heap.size wo W) => sf_directives gs gd pos f b t W (hSD W h).1 (hSD W h).2 hfi hfok)
        have QI := Lib.hid (fun (W : World) (h : Below wo.heap.size wo W) => sf_imports gs gd pos f b t W (hSD W h).1 (hSD W h).2 hfi hfok)
        have QE := Lib.hid (fun (W : World) (h : Below wo.heap.size wo W) => sf_embeds gs gd pos f b t W (hSD W h).1 (hSD W h).2 hfi hfok)
        have hil := hfok.impsL
        have hel := hfok.embsL
        have HB0 := Lib.hid hb0
        have HB1 := Lib.hid hb1
        have HOWN := Lib.hid hown
        clear hcell hul hu hsa hfi hSD hq hb0 hb1 hown hfok
        go_wp2_with fail
        refine (Q0.out 0).mono ?_
        rintro e w2 ⟨rfl, n0, rfl⟩
        go_wp2_with fail
        refine (Q1.out _).mono ?_
        rintro e w2 ⟨rfl, n1, rfl⟩
        go_wp2_with fail
        refine (Q2.out _).mono ?_
        rintro e w2 ⟨rfl, n2, rfl⟩
        go_wp2_with fail
        refine (Q3.out _).mono ?_
        rintro e w2 ⟨rfl, n3, rfl⟩
        go_wp2_with fail
        refine (Q4.out _).mono ?_
        rintro e w2 ⟨rfl, n4, rfl⟩
        go_wp2_with fail
        refine (Q5.out _).mono ?_
        rintro e w2 ⟨rfl, n5, rfl⟩
        go_wp2_with fail
        refine (Q6.out _).mono ?_
        rintro e w2 ⟨rfl, n6, rfl⟩
        go_wp2_with fail
        refine (Q7.out _).mono ?_
        rintro e w2 ⟨rfl, n7, rfl⟩
        go_wp2_with fail
        refine (Q8.out _).mono ?_
        rintro e w2 ⟨rfl, n8, rfl⟩
        go_wp2_with fail
        clear Q0 Q1 Q2 Q3 Q4 Q5 Q6 Q7 Q8
        refine (QC.out _ (below_dn (Below.refl _ _) _)).mono ?_
        rintro e wc ⟨Ac, cc, rfl, hoc, hbc⟩
        have hoc' : wc.ownsRow wo.heap.size 9 1 (.slice Ac f.cons.length cc) f.cons.length (f.cons.map Value.string) := hoc
        have hbc' : Below wo.heap.size wo wc := (below_dn (Below.refl wo.heap.size wo) _).trans hbc
        have HOC := Lib.hid hoc'
        have HBC := Lib.hid hbc'
        have hszc := hbc'.size
        clear hoc hbc hoc' hbc' QC
        go_wp2_with fail
        refine (QD.out _ HBC.out).mono ?_
        rintro e wd ⟨Ad, cd, rfl, hod, hbd⟩
        have hszd := hbd.size
        have HOD := Lib.hid hod
        have HBD := Lib.hid (HBC.out.trans (hbd.mono hszc))
        have HOCd := Lib.hid (own_below HOC.out hbd)
        clear hod hbd QD HOC
        go_wp2_with fail
        obtain ⟨W8, HW8⟩ : ∃ W8, W8 = wd.alloc (.cells #[.string f.err, .string f.perr, .string f.name, .string f.syn, .string f.pkg, .bool f.ign, .bool f.bin, .string f.cgo, .string f.con, .slice Ac f.cons.length cc, .slice none 0 0, .slice none 0 0, .slice Ad f.dirs.length cd] 56) := ⟨_, rfl⟩
        rw [show wd.alloc (.cells #[.string f.err, .string f.perr, .string f.name, .string f.syn, .string f.pkg, .bool f.ign, .bool f.bin, .string f.cgo, .string f.con, .slice Ac f.cons.length cc, .slice none 0 0, .slice none 0 0, .slice Ad f.dirs.length cd] 56) = W8 from HW8.symm]
        have hbx8 : Blk W8 wd.heap.size 56 #[.string f.err, .string f.perr, .string f.name, .string f.syn, .string f.pkg, .bool f.ign, .bool f.bin, .string f.cgo, .string f.con, .slice Ac f.cons.length cc, .slice none 0 0, .slice none 0 0, .slice Ad f.dirs.length cd] := by rw [HW8]; exact Blk.new _ _ _
        have hsz8 : W8.heap.size = wd.heap.size + 1 := by rw [HW8]; simp
        have hB8 : Below wd.heap.size wd W8 := by rw [HW8]; exact (Below.refl _ _).alloc (Nat.le_refl _) _
        have HBX8 := Lib.hid hbx8
        have HB8 := Lib.hid hB8
        have HS8 := Lib.hid hsz8
        clear HW8 hbx8 hB8 hsz8
        refine (QI.out _ (HBD.out.trans (HB8.out.mono (Nat.le_trans hszc hszd)))).mono ?_
        rintro e wi ⟨Ai, ci, rfl, hoi, hbi⟩
        have hszi := hbi.size
        rw [HS8.out] at hszi
        have HOI := Lib.hid hoi
        have HBXi := Lib.hid (HBX8.out.below hbi HBX8.out.lt)
        have HBi := Lib.hid (HBD.out.trans ((HB8.out.trans (hbi.mono (by rw [HS8.out]; omega))).mono (Nat.le_trans hszc hszd)))
        have HOCi := Lib.hid (own_below (own_below HOCd.out HB8.out) hbi)
        have HODi := Lib.hid (own_below (own_below HOD.out HB8.out) hbi)
        clear hoi hbi HBX8 HOCd HOD HS8 HB8 HBD HBC QI
        go_wp2_with fail
        go_loopw [62] (fun i wy => ∃ m : Nat, m ≤ f.imps.length ∧ i = .int .i64 m ∧ wi.grownBy wy (some wd.heap.size) ∧ ∃ vx, Blk wy wd.heap.size 56 #[.string f.err, .string f.perr, .string f.name, .string f.syn, .string f.pkg, .bool f.ign, .bool f.bin, .string f.cgo, .string f.con, .slice Ac f.cons.length cc, vx, .slice none 0 0, .slice Ad f.dirs.length cd] ∧ wy.ownsRow wi.heap.size 90 5 vx m ((f.imps.take m).flatMap dirCells)) (fun i _ => f.imps.length - (intOf i).toNat)
        case atStart => exact ⟨0, Nat.zero_le _, rfl, World.grownBy.refl _ _, _, HBXi.out, World.ownsRow_nil _ _ _ _⟩
        case round =>
          obtain ⟨m, hm, rfl, hG, vx, hbx, hox⟩ := hrel
          clear ca
          obtain ⟨wy, rfl⟩ : ∃ wy : World, wy = wr := ⟨_, rfl⟩
          have hszy := hG.size
          have hbxl := hbx.lt
          by_cases hltm : m < f.imps.length
          · obtain ⟨ag, ao, rfl, hab, hc0, hc1, hc2, hc3, hc4⟩ := DirsAt.cells (Reads.of_own (HOI.out.kept hG (.inr (own_blk_ne HOI.out HBXi.out (by decide))))) m hltm
            obtain ⟨Ax, cx, rfl⟩ := own_form' hox
            have hcx : wy.cell? ⟨wd.heap.size, 10, none⟩ = some (.slice Ax m cx) := hbx.cell 10
            have hsn := Lib.hid (flat_snoc f.imps m hltm)
            have hm0 : (0 : Int) ≤ (m : Int) := by omega
            have hm1 : (m : Int) < (f.imps.length : Int) := by omega
            generalize f.imps[m] = d at hc0 hc1 hc2 hc3 hc4 hsn
            have hown2 := (hox.alloc (.cells #[.string d.text, .string d.at_.fn, .int .i64 d.at_.o, .int .i64 d.at_.l, .int .i64 d.at_.c] 92)).alloc (.cells (dirCells d).toArray 90)
            have hnew := cells_new (wy.alloc (.cells #[.string d.text, .string d.at_.fn, .int .i64 d.at_.o, .int .i64 d.at_.l, .int .i64 d.at_.c] 92)) (dirCells d).toArray 90 (wy.heap.size + 1) (by simp)
            have HBX2 := Lib.hid ((hbx.alloc (.cells #[.string d.text, .string d.at_.fn, .int .i64 d.at_.o, .int .i64 d.at_.l, .int .i64 d.at_.c] 92)).alloc (.cells (dirCells d).toArray 90))
            have HG2 := Lib.hid ((hG.trans (World.grownBy_alloc wy (.cells #[.string d.text, .string d.at_.fn, .int .i64 d.at_.o, .int .i64 d.at_.l, .int .i64 d.at_.c] 92) _)).trans (World.grownBy_alloc _ (.cells (dirCells d).toArray 90) _))
            have HOX := Lib.hid hox
            clear hbx hox hG
            go_wp2_with (at_builtin; refine wpList_append_own_at _ rfl (.tmp 67) (.tmp 73) _ rfl wi.heap.size 90 i1 _ 5 56 Tryz.underlying54 hi1 hz3 hz4 hz5 rfl (by decide) _ m _ rfl hown2 ⟨wy.heap.size + 1, 0, none⟩ 1 1 (dirCells d) rfl rfl hnew (dirs_one d) (by unfold maxLen; omega) (by omega) (by simp; omega) ?_; intro v4 w4 hown4 hgrow4 _ hat4; obtain ⟨A4, c4, rfl⟩ := own_form' hown4; have HBX4 := Lib.hid (HBX2.out.grown hgrow4 (fun e => by have := (hown2.lt _ e.symm).1; omega)); have q4 := HBX4.out.cell 10; have f4 := HBX4.out.frozen 10)
            have hG4 : wi.grownBy (w4.setCell ⟨wd.heap.size, 10, none⟩ (.slice A4 (m + 1) c4)) (some wd.heap.size) := (HG2.out.andThen hgrow4 (fun j hj => .inl (hown2.lt _ hj).1)).trans (grownBy_setCell w4 ⟨wd.heap.size, 10, none⟩ _)
            have hB4 := HBX4.out.set_ 10 (.slice A4 (m + 1) c4)
            simp only [List.setIfInBounds_toArray, List.set_cons_zero, List.set_cons_succ] at hB4
            have hO4 : (w4.setCell ⟨wd.heap.size, 10, none⟩ (.slice A4 (m + 1) c4)).ownsRow wi.heap.size 90 5 (.slice A4 (m + 1) c4) (m + 1) ((f.imps.take (m + 1)).flatMap dirCells) := by
              rw [hsn.out]
              exact hown4.kept (grownBy_setCell w4 ⟨wd.heap.size, 10, none⟩ _) (.inr (own_blk_ne hown4 HBX4.out (by decide)))
            have HG4 := Lib.hid hG4
            have HB4 := Lib.hid hB4
            have HO4 := Lib.hid hO4
            clear hG4 hB4 hO4 hown4 hgrow4 hat4 hown2 hnew q4 f4
            go_roundw
            case rel => exact ⟨m + 1, by omega, by go_num, HG4.out, _, HB4.out, HO4.out⟩
            case measure => simp [intOf]; omega
          · have hml : m = f.imps.length := by omega
            subst hml
            rw [List.take_length] at hox
            obtain ⟨Ax, cx, rfl⟩ := own_form' hox
            have hBy : Below wo.heap.size wo wy := HBi.out.grown hG (by omega) (fun j hj => by injection hj with hj; omega)
            have hmo : wo.heap.size ≤ wy.heap.size := hBy.size
            have HOCy := Lib.hid (HOCi.out.kept hG (.inr (own_blk_ne HOCi.out HBXi.out (by decide))))
            have HODy := Lib.hid (HODi.out.kept hG (.inr (own_blk_ne HODi.out HBXi.out (by decide))))
            have HBXy := Lib.hid hbx
            have HOM := Lib.hid hox
            have HBy := Lib.hid hBy
            clear hG hbx hox hBy HOI HBXi HBi HOCi HODi
            go_wp2_with fail
            refine (QE.out _ HBy.out).mono ?_
            rintro e we ⟨Ae, ce, rfl, hoe, hbe⟩
            have hsze := hbe.size
            have HOE := Lib.hid hoe
            have HBXe := Lib.hid (HBXy.out.below hbe HBXy.out.lt)
            have HBe := Lib.hid (HBy.out.trans (hbe.mono hmo))
            have HOCe := Lib.hid (own_below HOCy.out hbe)
            have HODe := Lib.hid (own_below HODy.out hbe)
            have HOMe := Lib.hid (own_below HOM.out hbe)
            clear hoe hbe HOCy HODy HBXy HOM HBy QE
            go_wp2_with fail
            go_loopw [80] (fun i wz => ∃ m : Nat, m ≤ f.embs.length ∧ i = .int .i64 m ∧ we.grownBy wz (some wd.heap.size) ∧ ∃ vx, Blk wz wd.heap.size 56 #[.string f.err, .string f.perr, .string f.name, .string f.syn, .string f.pkg, .bool f.ign, .bool f.bin, .string f.cgo, .string f.con, .slice Ac f.cons.length cc, .slice Ax f.imps.length cx, vx, .slice Ad f.dirs.length cd] ∧ wz.ownsRow we.heap.size 90 5 vx m ((f.embs.take m).flatMap dirCells)) (fun i _ => f.embs.length - (intOf i).toNat)
            case atStart => exact ⟨0, Nat.zero_le _, rfl, World.grownBy.refl _ _, _, HBXe.out, World.ownsRow_nil _ _ _ _⟩
            case round =>
              obtain ⟨m, hm, rfl, hG, vx, hbx, hox⟩ := hrel
              skip
              obtain ⟨wz, rfl⟩ : ∃ wz : World, wz = wr := ⟨_, rfl⟩
              have hszy := hG.size
              have hbxl := hbx.lt
              by_cases hltm : m < f.embs.length
              · obtain ⟨ag, ao, rfl, hab, hc0, hc1, hc2, hc3, hc4⟩ := DirsAt.cells (Reads.of_own (HOE.out.kept hG (.inr (own_blk_ne HOE.out HBXe.out (by decide))))) m hltm
                obtain ⟨Ay, cy, rfl⟩ := own_form' hox
                have hcx : wz.cell? ⟨wd.heap.size, 11, none⟩ = some (.slice Ay m cy) := hbx.cell 11
                have hsn := Lib.hid (flat_snoc f.embs m hltm)
                have hm0 : (0 : Int) ≤ (m : Int) := by omega
                have hm1 : (m : Int) < (f.embs.length : Int) := by omega
                generalize f.embs[m] = d at hc0 hc1 hc2 hc3 hc4 hsn
                have hown2 := (hox.alloc (.cells #[.string d.text, .string d.at_.fn, .int .i64 d.at_.o, .int .i64 d.at_.l, .int .i64 d.at_.c] 94)).alloc (.cells (dirCells d).toArray 90)
                have hnew := cells_new (wz.alloc (.cells #[.string d.text, .string d.at_.fn, .int .i64 d.at_.o, .int .i64 d.at_.l, .int .i64 d.at_.c] 94)) (dirCells d).toArray 90 (wz.heap.size + 1) (by simp)
                have HBX2 := Lib.hid ((hbx.alloc (.cells #[.string d.text, .string d.at_.fn, .int .i64 d.at_.o, .int .i64 d.at_.l, .int .i64 d.at_.c] 94)).alloc (.cells (dirCells d).toArray 90))
                have HG2 := Lib.hid ((hG.trans (World.grownBy_alloc wz (.cells #[.string d.text, .string d.at_.fn, .int .i64 d.at_.o, .int .i64 d.at_.l, .int .i64 d.at_.c] 94) _)).trans (World.grownBy_alloc _ (.cells (dirCells d).toArray 90) _))
                have HOX := Lib.hid hox
                clear hbx hox hG
                go_wp2_with (at_builtin; refine wpList_append_own_at _ rfl (.tmp 85) (.tmp 91) _ rfl we.heap.size 90 i1 _ 5 56 Tryz.underlying54 hi1 hz3 hz4 hz5 rfl (by decide) _ m _ rfl hown2 ⟨wz.heap.size + 1, 0, none⟩ 1 1 (dirCells d) rfl rfl hnew (dirs_one d) (by unfold maxLen; omega) (by omega) (by simp; omega) ?_; intro v4 w4 hown4 hgrow4 _ hat4; obtain ⟨A4, c4, rfl⟩ := own_form' hown4; have HBX4 := Lib.hid (HBX2.out.grown hgrow4 (fun e => by have := (hown2.lt _ e.symm).1; omega)); have q4 := HBX4.out.cell 11; have f4 := HBX4.out.frozen 11)
                have hG4 : we.grownBy (w4.setCell ⟨wd.heap.size, 11, none⟩ (.slice A4 (m + 1) c4)) (some wd.heap.size) := (HG2.out.andThen hgrow4 (fun j hj => .inl (hown2.lt _ hj).1)).trans (grownBy_setCell w4 ⟨wd.heap.size, 11, none⟩ _)
                have hB4 := HBX4.out.set_ 11 (.slice A4 (m + 1) c4)
                simp only [List.setIfInBounds_toArray, List.set_cons_zero, List.set_cons_succ] at hB4
                have hO4 : (w4.setCell ⟨wd.heap.size, 11, none⟩ (.slice A4 (m + 1) c4)).ownsRow we.heap.size 90 5 (.slice A4 (m + 1) c4) (m + 1) ((f.embs.take (m + 1)).flatMap dirCells) := by
                  rw [hsn.out]
                  exact hown4.kept (grownBy_setCell w4 ⟨wd.heap.size, 11, none⟩ _) (.inr (own_blk_ne hown4 HBX4.out (by decide)))
                have HG4 := Lib.hid hG4
                have HB4 := Lib.hid hB4
                have HO4 := Lib.hid hO4
                clear hG4 hB4 hO4 hown4 hgrow4 hat4 hown2 hnew q4 f4
                go_roundw
                case rel => exact ⟨m + 1, by omega, by go_num, HG4.out, _, HB4.out, HO4.out⟩
                case measure => simp [intOf]; omega
              · have hml : m = f.embs.length := by omega
                subst hml
                rw [List.take_length] at hox
                obtain ⟨Ay, cy, rfl⟩ := own_form' hox
                have hBz : Below wo.heap.size wo wz := HBe.out.grown hG (by omega) (fun j hj => by injection hj with hj; omega)
                have hmz : wo.heap.size ≤ wz.heap.size := hBz.size
                have HOCz := Lib.hid (HOCe.out.kept hG (.inr (own_blk_ne HOCe.out HBXe.out (by decide))))
                have HODz := Lib.hid (HODe.out.kept hG (.inr (own_blk_ne HODe.out HBXe.out (by decide))))
                have HOMz := Lib.hid (HOMe.out.kept hG (.inr (own_blk_ne HOMe.out HBXe.out (by decide))))
                have HBXz := Lib.hid hbx
                have HOEz := Lib.hid hox
                have HBz := Lib.hid hBz
                clear hG hbx hox hBz HOE HBXe HBe HOCe HODe HOMe
                obtain ⟨css, o1, o2, o3, o4⟩ := HOWN.out
                have htl : (p.files.take k).length = k := List.length_take_of_le (by omega)
                rw [htl] at o1 o2
                obtain ⟨Av, cv, rfl⟩ := own_form' o1
                have hft : FileT wz wz.heap.size 90 (fileCells f (.slice Ac f.cons.length cc) (.slice Ax f.imps.length cx) (.slice Ay f.embs.length cy) (.slice Ad f.dirs.length cd)) f :=
                  ⟨_, _, _, _, rfl, ⟨Ac, cc, rfl, TR.of_own HOCz.out⟩, ⟨Ax, cx, rfl, TR.of_own HOMz.out⟩, ⟨Ay, cy, rfl, TR.of_own HOEz.out⟩, ⟨Ad, cd, rfl, TR.of_own HODz.out⟩⟩
                have hoW := (own_below o1 HBz.out).alloc (.cells #[.string f.err, .string f.perr, .string f.name, .string f.syn, .string f.pkg, .bool f.ign, .bool f.bin, .string f.cgo, .string f.con, .slice Ac f.cons.length cc, .slice Ax f.imps.length cx, .slice Ay f.embs.length cy, .slice Ad f.dirs.length cd] 56)
                have hnew := cells_new wz #[.string f.err, .string f.perr, .string f.name, .string f.syn, .string f.pkg, .bool f.ign, .bool f.bin, .string f.cgo, .string f.con, .slice Ac f.cons.length cc, .slice Ax f.imps.length cx, .slice Ay f.embs.length cy, .slice Ad f.dirs.length cd] 56 wz.heap.size rfl
                have hbz := HB1.out.below HBz.out HB1.out.lt
                have hcv : wz.cell? ⟨w.heap.size + 1, 2, none⟩ = some (.slice Av k cv) := hbz.cell 2
                have HBW := Lib.hid (hbz.alloc (.cells #[.string f.err, .string f.perr, .string f.name, .string f.syn, .string f.pkg, .bool f.ign, .bool f.bin, .string f.cgo, .string f.con, .slice Ac f.cons.length cc, .slice Ax f.imps.length cx, .slice Ay f.embs.length cy, .slice Ad f.dirs.length cd] 56))
                have hlz := hbz.lt
                have q0 : wz.cell? ⟨wd.heap.size, 0, none⟩ = _ := HBXz.out.cell 0
                have q1 : wz.cell? ⟨wd.heap.size, 1, none⟩ = _ := HBXz.out.cell 1
                have q2 : wz.cell? ⟨wd.heap.size, 2, none⟩ = _ := HBXz.out.cell 2
                have q3 : wz.cell? ⟨wd.heap.size, 3, none⟩ = _ := HBXz.out.cell 3
                have q4 : wz.cell? ⟨wd.heap.size, 4, none⟩ = _ := HBXz.out.cell 4
                have q5 : wz.cell? ⟨wd.heap.size, 5, none⟩ = _ := HBXz.out.cell 5
                have q6 : wz.cell? ⟨wd.heap.size, 6, none⟩ = _ := HBXz.out.cell 6
                have q7 : wz.cell? ⟨wd.heap.size, 7, none⟩ = _ := HBXz.out.cell 7
                have q8 : wz.cell? ⟨wd.heap.size, 8, none⟩ = _ := HBXz.out.cell 8
                have q9 : wz.cell? ⟨wd.heap.size, 9, none⟩ = _ := HBXz.out.cell 9
                have q10 : wz.cell? ⟨wd.heap.size, 10, none⟩ = _ := HBXz.out.cell 10
                have q11 : wz.cell? ⟨wd.heap.size, 11, none⟩ = _ := HBXz.out.cell 11
                have q12 : wz.cell? ⟨wd.heap.size, 12, none⟩ = _ := HBXz.out.cell 12
                have HFT := Lib.hid hft
                have O4 := Lib.hid o4
                have O1 := Lib.hid o1
                clear hft o4 o1 hbz HOCz HOMz HOEz HODz
                go_wp2_with (at_builtin; refine wpList_append_own_at _ rfl (.tmp 96) (.tmp 98) _ rfl w.heap.size 56 i0 _ 13 216 Tryz.underlying50 hi0 hz0 hz1 hz2 rfl (by decide) _ k css.flatten rfl hoW ⟨wz.heap.size, 0, none⟩ 1 1 #[.string f.err, .string f.perr, .string f.name, .string f.syn, .string f.pkg, .bool f.ign, .bool f.bin, .string f.cgo, .string f.con, .slice Ac f.cons.length cc, .slice Ax f.imps.length cx, .slice Ay f.embs.length cy, .slice Ad f.dirs.length cd].toList rfl rfl hnew (FileR.one (FileT.r HFT.out)) (by unfold maxLen; omega) (by omega) (by simp; omega) ?_; intro v4 w4 hown4 hgrow4 _ hat4; obtain ⟨A4, c4, rfl⟩ := own_form' hown4; have HBW4 := Lib.hid (HBW.out.grown hgrow4 (fun e => own_blk_ne hoW HBW.out (by decide) e.symm)); have r4 := HBW4.out.cell 2; have s4 := HBW4.out.frozen 2)
                have hsz4 : wz.heap.size + 1 ≤ w4.heap.size := by have := hgrow4.size; simpa using this
                have hS1 : SameOn [56, 52] wz.heap.size wz (w4.setCell ⟨w.heap.size + 1, 2, none⟩ (.slice A4 (k + 1) c4)) := ((SameOn.below ((Below.refl wz.heap.size wz).alloc (Nat.le_refl _) _) (Nat.le_refl _)).trans (SameOn.own hoW hgrow4 (by decide))).trans (SameOn.setCell (p := ⟨w.heap.size + 1, 2, none⟩) HBW4.out (by decide))
                have hS0 : SameOn [56, 52] wo.heap.size wo (w4.setCell ⟨w.heap.size + 1, 2, none⟩ (.slice A4 (k + 1) c4)) := (SameOn.below HBz.out (Nat.le_refl _)).trans (hS1.less hmz)
                have hszF : w4.heap.size = (w4.setCell ⟨w.heap.size + 1, 2, none⟩ (.slice A4 (k + 1) c4)).heap.size := by simp
                have hneA : Value.ownBlock (.slice A4 (k + 1) c4) ≠ some (w.heap.size + 1) := own_blk_ne hown4 HBW4.out (by decide)
                have hL : ListOwn (w4.setCell ⟨w.heap.size + 1, 2, none⟩ (.slice A4 (k + 1) c4)) w.heap.size 56 13 (FileT (w4.setCell ⟨w.heap.size + 1, 2, none⟩ (.slice A4 (k + 1) c4)) (w4.setCell ⟨w.heap.size + 1, 2, none⟩ (.slice A4 (k + 1) c4)).heap.size 90) (.slice A4 (k + 1) c4) (p.files.take (k + 1)) := by
                  rw [hts.out]
                  refine ListOwn.snoc (cs := #[.string f.err, .string f.perr, .string f.name, .string f.syn, .string f.pkg, .bool f.ign, .bool f.bin, .string f.cgo, .string f.con, .slice Ac f.cons.length cc, .slice Ax f.imps.length cx, .slice Ay f.embs.length cy, .slice Ad f.dirs.length cd].toList) (css := css) ?_ (by rw [o2, htl]) o3 (fun i cs x a b => ((O4.out i cs x a b).same hS0 (by decide) (by decide)).more (by omega)) rfl ((HFT.out.same hS1 (by decide) (by decide)).more (by omega))
                  rw [htl]
                  exact hown4.kept (grownBy_setCell w4 ⟨w.heap.size + 1, 2, none⟩ _) (.inr hneA)
                have hFF : Below w.heap.size w (w4.setCell ⟨w.heap.size + 1, 2, none⟩ (.slice A4 (k + 1) c4)) := (((hF.trans (HBz.out.mono hsz)).alloc (by omega) _).grown hgrow4 (by simp; omega) (fun j hj => (hoW.lt j hj).1)).setCell (by show w.heap.size ≤ w.heap.size + 1; omega) _
                have hB0F := (((HB0.out.below HBz.out HB0.out.lt).alloc (.cells #[.string f.err, .string f.perr, .string f.name, .string f.syn, .string f.pkg, .bool f.ign, .bool f.bin, .string f.cgo, .string f.con, .slice Ac f.cons.length cc, .slice Ax f.imps.length cx, .slice Ay f.embs.length cy, .slice Ad f.dirs.length cd] 56)).grown hgrow4 (fun e => own_blk_ne hoW ((HB0.out.below HBz.out HB0.out.lt).alloc (.cells #[.string f.err, .string f.perr, .string f.name, .string f.syn, .string f.pkg, .bool f.ign, .bool f.bin, .string f.cgo, .string f.con, .slice Ac f.cons.length cc, .slice Ax f.imps.length cx, .slice Ay f.embs.length cy, .slice Ad f.dirs.length cd] 56)) (by decide) e.symm)).far (p := ⟨w.heap.size + 1, 2, none⟩) (by show w.heap.size ≠ w.heap.size + 1; omega) (.slice A4 (k + 1) c4)
                have hB1F := HBW4.out.set_ 2 (.slice A4 (k + 1) c4)
                simp only [List.setIfInBounds_toArray, List.set_cons_zero, List.set_cons_succ] at hB1F
                have HL := Lib.hid hL
                have HFF := Lib.hid hFF
                have HB0F := Lib.hid hB0F
                have HB1F := Lib.hid hB1F
                clear hL hFF hB0F hB1F hS1 hS0 hszF hneA hown4 hgrow4 hat4 hoW hnew r4 s4 q0 q1 q2 q3 q4 q5 q6 q7 q8 q9 q10 q11 q12 hcv
                go_roundw
                case rel => exact ⟨k + 1, by omega, by go_num, HFF.out, HB0F.out, _, HB1F.out, HL.out⟩
                case measure => simp [intOf]; omega
      · have hkl : k = p.files.length := by omega
        subst hkl
        rw [List.take_length] at hown
        obtain ⟨Av, cv, rfl⟩ : ∃ A c, v = .slice A p.files.length c := ListAt.form hown.t.at_
        have e0 : wo.cell? ⟨w.heap.size + 1, 0, none⟩ = some (.string p.err) := hb1.cell 0
        have e1 : wo.cell? ⟨w.heap.size + 1, 1, none⟩ = some (.string p.dir) := hb1.cell 1
        have e2 : wo.cell? ⟨w.heap.size + 1, 2, none⟩ = some (.slice Av p.files.length cv) := hb1.cell 2
        have d0 := hb0.cell 0
        have d1 := hb0.cell 1
        have d2 := hb0.cell 2
        have f0 := hb0.frozen 0
        have f1 := hb0.frozen 1
        have f2 := hb0.frozen 2
        have hne : w.heap.size ≠ w.heap.size + 1 := by omega
        have HOWN := Lib.hid hown
        have HB0 := Lib.hid hb0
        clear hown hb0 hb1
        go_wp2_with fail
        have hB3 := ((HB0.out.set_ 0 (.string p.err)).set_ 1 (.string p.dir)).set_ 2 (.slice Av p.files.length cv)
        simp only [List.setIfInBounds_toArray, List.set_cons_zero, List.set_cons_succ] at hB3
        refine bodyPost_ret (results_cell 2 52 rfl w.heap.size _ rfl _ Tryz.underlying52 rfl (by kernel_rfl) hB3.range) rfl ?_
        have hS : SameOn [52] wo.heap.size wo (((wo.setCell ⟨w.heap.size, 0, none⟩ (.string p.err)).setCell ⟨w.heap.size, 1, none⟩ (.string p.dir)).setCell ⟨w.heap.size, 2, none⟩ (.slice Av p.files.length cv)) :=
          ((SameOn.setCell (p := ⟨w.heap.size, 0, none⟩) HB0.out (by decide)).trans (SameOn.setCell (p := ⟨w.heap.size, 1, none⟩) (HB0.out.set_ 0 _) (by decide))).trans (SameOn.setCell (p := ⟨w.heap.size, 2, none⟩) ((HB0.out.set_ 0 _).set_ 1 _) (by decide))
        refine ⟨_, rfl, ⟨_, rfl, ((HOWN.out.t.same hS (by decide)).more (by simp)).imp fun _ _ h => (h.same hS (by decide) (by decide)).more (by simp)⟩, ((hF.setCell (by exact Nat.le_refl _) _).setCell (by exact Nat.le_refl _) _).setCell (by exact Nat.le_refl _) _⟩
end Go.Proofs.YtanfimeajalffaaGreatDoor
