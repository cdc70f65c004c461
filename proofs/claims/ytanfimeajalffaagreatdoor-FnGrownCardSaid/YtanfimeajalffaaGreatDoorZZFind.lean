/-
  The contract of ZZFind on an index. Conditions: the bytes are an index of packages (IndexIs), in the order of their folders; the package's error laid.
-/
import Derived.Test.YtanfimeajalffaaGreatDoorPackage
import Derived.Test.YtanfimeajalffaaGreatDoorZZPkg
import Derived.Test.YtanfimeajalffaaGreatDoorZZDec
namespace Go.Proofs.YtanfimeajalffaaGreatDoor
open Go.RowKit
attribute [local go_sem ↓] Go.wp_at_zero Go.wp_at_succ

/-- The package that a folder has among packages: or the one that tells that there is none. -/
def Its (ps : List PkgD) (d : ByteArray) (p : PkgD) : Prop := (p ∈ ps ∧ p.dir = d) ∨ (p = noPkg ∧ ∀ q ∈ ps, q.dir ≠ d)
theorem Its.ok {ps : List PkgD} {d : ByteArray} {p : PkgD} (h : Its ps d p) (hok : ∀ p ∈ ps, p.Ok) : p.Ok := by
  rcases h with h | h
  · exact hok p h.1
  · rw [h.1]
    exact noPkg_ok
/-- .. in the package's own data. -/
def FoundT (ps : List PkgD) (d : ByteArray) (w : World) (e : Ending) (w' : World) : Prop :=
  ∃ A c p, e = .returned (.tuple #[.agg #[.string p.err, .string p.dir, .slice A p.files.length c], .nilIface]) ∧ PkgT w' w'.heap.size 56 90 [.string p.err, .string p.dir, .slice A p.files.length c] p ∧ Below w.heap.size w w' ∧ Its ps d p

set_option maxHeartbeats 4000000 in
set_option maxRecDepth 100000 in
theorem zzFind_ok (v : Value) (l : List UInt8) (ps : List PkgD) (d : ByteArray) (ga oa : Nat) (w : World) (hb : BS w v l) (hi : IndexIs l ps) (hn : ps.length ≤ 10) (hok : ∀ p ∈ ps, p.Ok) (hst : Strict ps) (hC : Cannot w ga oa) :
    Calls Tryz.prog 22 #[v, .string d] w (FoundT ps d w) := by
  obtain ⟨W0, HW0⟩ : ∃ W0, W0 = (w.alloc (.cells #[.string { data := #[] }, .string { data := #[] }, .slice none 0 0] 52)).alloc (.cells #[.nilIface] 47) := ⟨_, rfl⟩
  have hb0 : Below w.heap.size w W0 := by rw [HW0]; exact ((Below.refl _ _).alloc (Nat.le_refl _) _).alloc (by simp) _
  have hP0 : Blk W0 w.heap.size 52 #[.string { data := #[] }, .string { data := #[] }, .slice none 0 0] := by rw [HW0]; exact (Blk.new w _ _).alloc _
  have hE0 : Blk W0 (w.heap.size + 1) 47 #[.nilIface] := by
    rw [HW0]
    have := Blk.new (w.alloc (.cells #[.string { data := #[] }, .string { data := #[] }, .slice none 0 0] 52)) 47 #[.nilIface]
    rw [World.size_alloc] at this
    exact this
  have hsz0 : W0.heap.size = w.heap.size + 2 := by rw [HW0]; simp
  have C := Lib.hid (fromBytes_ok { data := #[] } v l ps W0 (hb.below hb0) hi hn hok)
  obtain ⟨A, c, rfl, hA⟩ := id hb
  have HP0 := Lib.hid hP0
  have HE0 := Lib.hid hE0
  have HS0 := Lib.hid hsz0
  have HB0 := Lib.hid hb0
  have HOK := Lib.hid hok
  have HST := Lib.hid hst
  have HC := Lib.hid hC
  have HW := Lib.hid HW0
  clear hA hb hok hi hst hC HW0 hb0 hP0 hE0 hsz0
  go_enter_defers Tryz.func22, Tryz.ntmps22
  go_wp2_with fail
  rw [show (w.alloc (.cells #[.string { data := #[] }, .string { data := #[] }, .slice none 0 0] 52)).alloc (.cells #[.nilIface] 47) = W0 from HW.out.symm]
  refine C.out.mono ?_
  rintro e w1 ⟨gm, gd, b, t, rfl, hm, hd, hix, hb1⟩
  have hE1 := HE0.out.below hb1 HE0.out.lt
  have hP1 := HP0.out.below hb1 HP0.out.lt
  have hbel := HB0.out.trans (hb1.mono HB0.out.size)
  have c0 := hE1.cell 0
  have f0 := hE1.frozen 0
  have hgs := grownBy_setCell w1 ⟨w.heap.size + 1, 0, none⟩ .nilIface
  obtain ⟨W2, HW2⟩ : ∃ W2, W2 = w1.setCell ⟨w.heap.size + 1, 0, none⟩ .nilIface := ⟨_, rfl⟩
  have hm2 : ModAt W2 gm gd ps.length := by
    obtain ⟨r, h⟩ := hm
    rw [HW2]
    exact ⟨r, h.grownT hgs (fun h e => by injection e with e; subst e; exact ⟨_, _, hE1, by decide⟩)⟩
  have hd2 : DecAt W2 gd b t := by
    rw [HW2]
    obtain ⟨vd, vs, h1, h2, h3⟩ := hd
    exact ⟨vd, vs, h1.grownT hgs (fun h e => by injection e with e; subst e; exact ⟨_, _, hE1, by decide⟩), BS.grownNil h2 hE1 hgs nil_no, BS.grownNil h3 hE1 hgs nil_no⟩
  have hE2 : Blk W2 (w.heap.size + 1) 47 #[.nilIface] := by rw [HW2]; exact hE1.set_ 0 .nilIface
  have hP2 : Blk W2 w.heap.size 52 #[.string { data := #[] }, .string { data := #[] }, .slice none 0 0] := by rw [HW2]; exact hP1.far (by show w.heap.size ≠ w.heap.size + 1; omega) _
  have hbel2 : Below w.heap.size w W2 := by rw [HW2]; exact hbel.setCell (by show w.heap.size ≤ w.heap.size + 1; omega) _
  have CP := Lib.hid (package_any gm gd ga oa d ps b t W2 HST.out hm2 hd2 hix HOK.out (HC.out.below hbel2))
  have HD := Lib.hid hd2
  have HE2 := Lib.hid hE2
  have HP2 := Lib.hid hP2
  have HBEL := Lib.hid hbel2
  have HW' := Lib.hid HW2
  clear hm hd hix hb1 hbel hE1 hP1 hgs hm2 hd2 hE2 hP2 hbel2 HW2 C
  go_wp2_with fail
  rw [show w1.setCell ⟨w.heap.size + 1, 0, none⟩ .nilIface = W2 from HW'.out.symm]
  clear HW' c0 f0
  refine CP.out.mono ?_
  rintro e w3 ⟨gp, p, rfl, hip, hb3, hits⟩
  have hpok : p.Ok := Its.ok hits HOK.out
  have CZ := Lib.hid (zzPackage_any gp gd p b t w3 (HD.out.below hb3) hip hpok)
  have HB3 := Lib.hid hb3
  have HITS := Lib.hid (show Its ps d p from hits)
  clear hip hb3 hits hpok CP
  go_wp2_with fail
  refine CZ.out.mono ?_
  rintro e w4 ⟨cs, rfl, ⟨vf, rfl, hft⟩, hb4⟩
  obtain ⟨Ax, cx, rfl⟩ : ∃ A c, vf = .slice A p.files.length c := ListAt.form hft.at_
  have hb24 := HB3.out.trans (hb4.mono HB3.out.size)
  have hP4 := HP2.out.below hb24 HP2.out.lt
  have hE4 := HE2.out.below hb24 HE2.out.lt
  have d0 := hP4.cell 0
  have d1 := hP4.cell 1
  have d2 := hP4.cell 2
  have g0 := hP4.frozen 0
  have g1 := hP4.frozen 1
  have g2 := hP4.frozen 2
  have e0 := hE4.cell 0
  have k0 := hE4.frozen 0
  have hbel4 := HBEL.out.trans (hb24.mono HBEL.out.size)
  have HP4 := Lib.hid hP4
  have HE4 := Lib.hid hE4
  have HFT := Lib.hid hft
  have HB4 := Lib.hid hbel4
  clear hb4 hb24 hP4 hE4 hft hbel4 CZ
  go_wp2_with fail
  refine leaves_cons (f := 27) (args := #[.pointer (some ⟨w.heap.size + 1, 0, none⟩)]) (by simp) (by simp [go_sem]) ?_
  refine (unprotect_idle _ _).mono ?_
  rintro e u' w'' ⟨rfl, rfl, rfl⟩
  have hne : w.heap.size ≠ w.heap.size + 1 := by omega
  have hP5 := ((HP4.out.set_ 0 (.string p.err)).set_ 1 (.string p.dir)).set_ 2 (.slice Ax p.files.length cx)
  simp only [List.setIfInBounds_toArray, List.set_cons_zero, List.set_cons_succ] at hP5
  have hE5 := ((HE4.out.far (p := ⟨w.heap.size, 0, none⟩) (Ne.symm hne) (.string p.err)).far (p := ⟨w.heap.size, 1, none⟩) (Ne.symm hne) (.string p.dir)).far (p := ⟨w.heap.size, 2, none⟩) (Ne.symm hne) (.slice Ax p.files.length cx)
  have hPF := hP5.far (p := ⟨w.heap.size + 1, 0, none⟩) hne .nilIface
  have hEF := hE5.set_ 0 .nilIface
  have hS : SameOn [52, 47] w4.heap.size w4 ((((w4.setCell ⟨w.heap.size, 0, none⟩ (.string p.err)).setCell ⟨w.heap.size, 1, none⟩ (.string p.dir)).setCell ⟨w.heap.size, 2, none⟩ (.slice Ax p.files.length cx)).setCell ⟨w.heap.size + 1, 0, none⟩ .nilIface) :=
    (((SameOn.setCell (p := ⟨w.heap.size, 0, none⟩) HP4.out (by decide)).trans (SameOn.setCell (p := ⟨w.heap.size, 1, none⟩) (HP4.out.set_ 0 _) (by decide))).trans (SameOn.setCell (p := ⟨w.heap.size, 2, none⟩) ((HP4.out.set_ 0 _).set_ 1 _) (by decide))).trans (SameOn.setCell (p := ⟨w.heap.size + 1, 0, none⟩) hE5 (by decide))
  have hfin : FoundT ps d w (.returned (.tuple #[.agg #[.string p.err, .string p.dir, .slice Ax p.files.length cx], .nilIface])) ((((w4.setCell ⟨w.heap.size, 0, none⟩ (.string p.err)).setCell ⟨w.heap.size, 1, none⟩ (.string p.dir)).setCell ⟨w.heap.size, 2, none⟩ (.slice Ax p.files.length cx)).setCell ⟨w.heap.size + 1, 0, none⟩ .nilIface) :=
    ⟨Ax, cx, p, rfl, ⟨_, rfl, ((HFT.out.same hS (by decide)).more (by simp)).imp fun _ _ h => (h.same hS (by decide) (by decide)).more (by simp)⟩, (((HB4.out.setCell (by exact Nat.le_refl _) _).setCell (by exact Nat.le_refl _) _).setCell (by exact Nat.le_refl _) _).setCell (by exact Nat.le_succ _) _, HITS.out⟩
  have z0 := hPF.cell 0
  have z1 := hPF.cell 1
  have z2 := hPF.cell 2
  have z3 := hEF.cell 0
  simp only [List.getElem?_toArray, List.getElem?_cons_zero, List.getElem?_cons_succ] at z0 z1 z2
  have z3' : ((((w4.setCell ⟨w.heap.size, 0, none⟩ (.string p.err)).setCell ⟨w.heap.size, 1, none⟩ (.string p.dir)).setCell ⟨w.heap.size, 2, none⟩ (.slice Ax p.files.length cx)).setCell ⟨w.heap.size + 1, 0, none⟩ .nilIface).cell? ⟨w.heap.size + 1, 0, none⟩ = some .nilIface := z3
  simp [Leaves, settle, results, Tryz.results22, go_sem, z0, z1, z2, z3']
  exact hfin
end Go.Proofs.YtanfimeajalffaaGreatDoor
