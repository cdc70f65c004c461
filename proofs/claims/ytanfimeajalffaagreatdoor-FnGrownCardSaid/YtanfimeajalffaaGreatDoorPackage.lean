/-
  Module.Package: the package of a folder, or one that tells that there is none. Conditions: what stands in the index (Idx), its folders in their order, the package's error laid.
-/
import Derived.Test.YtanfimeajalffaaGreatDoorFind
import Derived.Test.YtanfimeajalffaaGreatDoorGC
namespace Go.Proofs.YtanfimeajalffaaGreatDoor
open Go.RowKit
attribute [local go_sem ↓] Go.wp_at_zero Go.wp_at_succ

abbrev cannotS : ByteArray := { data := #[99, 97, 110, 110, 111, 116, 32, 102, 105, 110, 100, 32, 112, 97, 99, 107, 97, 103, 101] }
/-- What errCannotFindPackage holds. -/
def Cannot (w : World) (ga oa : Nat) : Prop := w.cell? ⟨1, 0, none⟩ = some (.iface 144 (.pointer (some ⟨ga, oa, none⟩))) ∧ w.cell? ⟨ga, oa, none⟩ = some (.string cannotS)
theorem Cannot.below {w w' : World} {ga oa : Nat} (h : Cannot w ga oa) (hb : Below w.heap.size w w') : Cannot w' ga oa :=
  ⟨(hb.cell (p := ⟨1, 0, none⟩) (cell_lt h.1)).trans h.1, (hb.cell (p := ⟨ga, oa, none⟩) (cell_lt h.2)).trans h.2⟩
/-- The package that is told where there is none. -/
def noPkg : PkgD := { err := cannotS, dir := ByteArray.empty, files := [] }
theorem noPkg_ok : noPkg.Ok := ⟨by decide, by decide, by decide, fun f h => (by cases h)⟩

/-- The package of a folder was looked up. -/
def Found (ps : List PkgD) (d : ByteArray) (gd : Nat) (b t : List UInt8) (w : World) (e : Ending) (w' : World) : Prop :=
  ∃ gp p, e = .returned (.pointer (some ⟨gp, 0, none⟩)) ∧ IPkg w' gp gd b t p ∧ Below w.heap.size w w' ∧ ((p ∈ ps ∧ p.dir = d) ∨ (p = noPkg ∧ ∀ q ∈ ps, q.dir ≠ d))

set_option maxHeartbeats 2000000 in
set_option maxRecDepth 100000 in
theorem package_any (gm gd ga oa : Nat) (d : ByteArray) (ps : List PkgD) (b t : List UInt8) (w : World) (hst : Strict ps) (hm : ModAt w gm gd ps.length) (hd : DecAt w gd b t) (hi : Idx b t ps) (hok : ∀ p ∈ ps, p.Ok) (hC : Cannot w ga oa) :
    Calls Tryz.prog 33 #[.pointer (some ⟨gm, 0, none⟩), .string d] w (Found ps d gd b t w) := by
  obtain ⟨W1, HW1⟩ : ∃ W1, W1 = (w.alloc (.cells #[.pointer (some ⟨gm, 0, none⟩)] 64)).alloc (.cells #[.string d] 9) := ⟨_, rfl⟩
  have hb1 : Below w.heap.size w W1 := by rw [HW1]; exact ((Below.refl _ _).alloc (Nat.le_refl _) _).alloc (by simp) _
  have hB0 : Blk W1 w.heap.size 64 #[.pointer (some ⟨gm, 0, none⟩)] := by rw [HW1]; exact (Blk.new w _ _).alloc _
  have hB1 : Blk W1 (w.heap.size + 1) 9 #[.string d] := by
    rw [HW1]
    have := Blk.new (w.alloc (.cells #[.pointer (some ⟨gm, 0, none⟩)] 64)) 9 #[.string d]
    rw [World.size_alloc] at this
    exact this
  have hm1 := hm.below hb1
  have hd1 := hd.below hb1
  have hC1 := hC.below hb1
  obtain ⟨r, hmb⟩ := id hm1
  have c2 : W1.cell? ⟨gm, 2, none⟩ = some (.int .i64 (ps.length : Int)) := hmb.cell 2
  have c0 : W1.cell? ⟨w.heap.size, 0, none⟩ = some (.pointer (some ⟨gm, 0, none⟩)) := hB0.cell 0
  have F := Lib.hid (sortFind_any (w.heap.size + 1) w.heap.size gm gd d ps b t W1 hst hB1 hB0 hm1 hd1 hi)
  have cE : W1.cell? ⟨1, 0, none⟩ = some (.iface 144 (.pointer (some ⟨ga, oa, none⟩))) := hC1.1
  have HC1 := Lib.hid hC1
  have HM1 := Lib.hid hm1
  have HD1 := Lib.hid hd1
  have HI := Lib.hid hi
  have HM0 := Lib.hid hm
  have HST := Lib.hid hst
  have HOK := Lib.hid hok
  have HB1 := Lib.hid hb1
  have HW := Lib.hid HW1
  clear hst hm hd hi hok hC HW1 hb1 hB0 hB1 hm1 hd1 hC1 hmb
  have c2' : ∀ o o', ((w.alloc o).alloc o').cell? ⟨gm, 2, none⟩ = some (.int .i64 (ps.length : Int)) := fun o o' => by
    obtain ⟨r', h'⟩ := id HM0.out
    exact ((h'.alloc o).alloc o').cell 2
  go_enter_defers Tryz.func33, Tryz.ntmps33
  go_wp2_with fail
  rw [show (w.alloc (.cells #[.pointer (some ⟨gm, 0, none⟩)] 64)).alloc (.cells #[.string d] 9) = W1 from HW.out.symm]
  clear c2'
  refine F.out.mono ?_
  rintro e w2 ⟨i, f, j, rfl, rfl, hin, hlo, hhi, hiff⟩
  cases f
  · have hno : ∀ q ∈ ps, q.dir ≠ d := none_of HST.out hlo hhi fun h hz => by have := hiff.2 ⟨h, hz⟩; cases this
    have HNO := Lib.hid hno
    have hfin : Found ps d gd b t w (.returned (.pointer (some ⟨W1.heap.size, 0, none⟩))) ((W1.drewN j).alloc (.cells #[.iface 144 (.pointer (some ⟨ga, oa, none⟩)), .string { data := #[] }, .string { data := #[] }, .slice none 0 0] 109)) := by
      refine ⟨_, noPkg, rfl, ⟨_, _, _, Blk.new (W1.drewN j) _ _, .inr ⟨by decide, ga, oa, rfl, ?_⟩, none, 0, [], rfl, Reads.none_, fun k u f h => by simp at h⟩, (below_dn HB1.out j).alloc HB1.out.size _, .inr ⟨rfl, hno⟩⟩
      exact (World.cell?_alloc_lt (W1.drewN j) _ _ (cell_lt HC1.out.2)).trans HC1.out.2
    have HFIN := Lib.hid hfin
    clear hlo hhi hiff hno F hfin
    go_wp2_with fail
    refine leaves_cons (f := 27) (args := #[.pointer none]) (by simp) (by simp [go_sem]) ?_
    refine (unprotect_idle _ _).mono ?_
    rintro e u' w'' ⟨rfl, rfl, rfl⟩
    simp [Leaves, settle, results, Tryz.results33]
    exact HFIN.out
  · obtain ⟨hlt, hz⟩ := hiff.1 rfl
    obtain ⟨off, hi9, hoff, hpk⟩ := HI.out.pkgs i _ (List.getElem?_eq_getElem hlt)
    have CP := Lib.hid (fun k => pkg_any gm gd off hi9 ps.length i ps[i] b t (W1.drewN k) hlt HI.out.n HM1.out HD1.out hoff hpk (HOK.out _ (List.getElem_mem hlt)))
    have HDIR := Lib.hid (one_of hlt hz)
    have HMEM := Lib.hid (List.getElem_mem hlt)
    clear hlo hhi hiff hz hoff hpk F
    generalize ps[i] = p at *
    go_wp2_with fail
    refine (CP.out _).mono ?_
    rintro e w3 ⟨gp, rfl, hip, hb3⟩
    have hfin : Found ps d gd b t w (.returned (.pointer (some ⟨gp, 0, none⟩))) w3 := ⟨_, p, rfl, hip, (below_dn HB1.out j).trans (hb3.mono HB1.out.size), .inl ⟨HMEM.out, HDIR.out⟩⟩
    have HFIN := Lib.hid hfin
    clear hip hb3 hfin
    go_wp2_with fail
    refine leaves_cons (f := 27) (args := #[.pointer none]) (by simp) (by simp [go_sem]) ?_
    refine (unprotect_idle _ _).mono ?_
    rintro e u' w'' ⟨rfl, rfl, rfl⟩
    simp [Leaves, settle, results, Tryz.results33]
    exact HFIN.out
end Go.Proofs.YtanfimeajalffaaGreatDoor
