/-
  The contract of impl.Find on an index. Conditions: the bytes are an index of packages (IndexIs), in the order of their folders; the package's error laid.
-/
import Derived.Test.YtanfimeajalffaaGreatDoorZZFind
import Derived.Test.YtanfimeajalffaaGreatDoorDecOk
namespace Go.Proofs.YtanfimeajalffaaGreatDoor
open Go.RowKit
attribute [local go_sem ↓] Go.wp_at_zero Go.wp_at_succ

/-- The package of a folder, as an index tells it, and that it is one. -/
def FoundI (ps : List PkgD) (d : ByteArray) (w : World) (e : Ending) (w' : World) : Prop :=
  ∃ A c p, e = .returned (.tuple #[.agg #[.string p.err, .string p.dir, .slice A p.files.length c], .bool true]) ∧ PkgT w' w'.heap.size 43 101 [.string p.err, .string p.dir, .slice A p.files.length c] p ∧ Below w.heap.size w w' ∧ Its ps d p

set_option maxHeartbeats 4000000 in
set_option maxRecDepth 100000 in
theorem implFind_ok (v : Value) (l : List UInt8) (ps : List PkgD) (d : ByteArray) (ga oa : Nat) (w : World) (hb : BS w v l) (hi : IndexIs l ps) (hn : ps.length ≤ 10) (hok : ∀ p ∈ ps, p.Ok) (hst : Strict ps) (hC : Cannot w ga oa) (hs : l.length ≤ 100000000) :
    Calls Tryz.prog 13 #[v, .string d] w (FoundI ps d w) := by
  obtain ⟨i0, hi0, hz0, hz1, hz2⟩ := info_parts' byte_info
  obtain ⟨A, c, rfl, hA⟩ := id hb
  clear hA
  have HB := Lib.hid hb
  have HC := Lib.hid hC
  have HOK := Lib.hid hok
  have HZ := Lib.hid (fun (v : Value) (W : World) (h : BS W v l) (hc : Cannot W ga oa) => zzFind_ok v l ps d ga oa W h hi hn hok hst hc)
  have hR0 := Lib.hid (Blk.new w 32 #[.string { data := #[] }, .string { data := #[] }, .slice none 0 0])
  clear hb hi hok hst hC
  go_enter Tryz.func13, Tryz.ntmps13
  go_wp2_with (at_builtin; refine wpList_append_any _ rfl (.tmp 9) (.tmp 10) _ rfl (w.heap.size + 1) 5 i0 _ 1 1 Tryz.underlying26 hi0 hz0 hz1 hz2 rfl (by omega) (.slice (some ⟨w.heap.size + 1, 0, none⟩) 0 0) 0 [] rfl (own_void _ _ _ _ (by simp) (by omega)) _ A l.length c (Lib.byteCells l) rfl (reads_of_bs (HB.out.below (((Below.refl _ _).alloc (Nat.le_refl _) _).alloc (by simp) _))) (byteCells_oneCell l) (by simp only [maxLen]; omega) (by omega) (by simp) ?_; intro v1 w1 hown1 hg1 hat1)
  have hb1 : BS w1 v1 l := bs_of_own (by simpa using hown1)
  have hbw : Below (w.heap.size + 1) (w.alloc (.cells #[.string { data := #[] }, .string { data := #[] }, .slice none 0 0] 32)) w1 := ((Below.refl _ _).alloc (by simp) _).grown hg1 (by simp) (by simp [Value.ownBlock])
  have hR1 := hR0.out.below hbw (by omega)
  have hbw0 : Below w.heap.size w w1 := ((Below.refl _ _).alloc (Nat.le_refl _) _).trans (hbw.mono (by omega))
  have CZ := Lib.hid (HZ.out v1 w1 hb1 (HC.out.below hbw0))
  have HR1 := Lib.hid hR1
  have HB1 := Lib.hid hbw0
  clear hown1 hg1 hat1 hb1 hbw hR1 hbw0 HZ
  refine CZ.out.mono ?_
  rintro e w2 ⟨A2, c2, p, rfl, hpt, hb2, hits⟩
  have hpok := Its.ok hits HOK.out
  have hR2 := HR1.out.below hb2 HR1.out.lt
  have hbel2 := HB1.out.trans (hb2.mono HB1.out.size)
  obtain ⟨W3, HW3⟩ : ∃ W3, W3 = w2.alloc (.cells #[.string p.err, .string p.dir, .slice A2 p.files.length c2] 52) := ⟨_, rfl⟩
  have hb3 : Below w2.heap.size w2 W3 := by rw [HW3]; exact (Below.refl _ _).alloc (Nat.le_refl _) _
  have hp3 : Blk W3 w2.heap.size 52 #[.string p.err, .string p.dir, .slice A2 p.files.length c2] := by rw [HW3]; exact Blk.new _ _ _
  have hR3 := hR2.below hb3 hR2.lt
  have hbel3 := hbel2.trans (hb3.mono hbel2.size)
  have hpr : PkgR W3 w2.heap.size [.string p.err, .string p.dir, .slice A2 p.files.length c2] p := (PkgT.r hpt).below hb3
  have CT := Lib.hid (toldPackage_any w2.heap.size _ p W3.drew hb3.size hpok (hpr.below (Below.refl _ _).drew))
  have HR3 := Lib.hid hR3
  have HP3 := Lib.hid hp3
  have HB3 := Lib.hid hbel3
  have HITS := Lib.hid (show Its ps d p from hits)
  have HW := Lib.hid HW3
  have hSS : Hid ((∀ j, W3.drew.cell? ⟨w2.heap.size, j, none⟩ = (#[.string p.err, .string p.dir, .slice A2 p.files.length c2] : Array Value)[j]?)) := Lib.hid hp3.cell
  have hlt2 := hR2.lt
  clear hpt hb2 hits hpok hR2 hbel2 hb3 hp3 hR3 hbel3 hpr HW3 CZ
  go_wp2_with fail
  rw [show w2.alloc (.cells #[.string p.err, .string p.dir, .slice A2 p.files.length c2] 52) = W3 from HW.out.symm]
  refine wp_region_n 4 (fun W => (∀ j, W.cell? ⟨w2.heap.size, j, none⟩ = (#[.string p.err, .string p.dir, .slice A2 p.files.length c2] : Array Value)[j]?)) (by kernel_rfl) ?_
  have hHeld := hSS.out
  refine wpAnyN_take (i := 0) (oi := ⟨some 16, _, _, _, _, _⟩) (v := (.agg #[.string p.err, .string p.dir, .slice A2 p.files.length c2])) rfl (by kernel_rfl) (by kernel_rfl) (by kernel_rfl) (by kernel_rfl) (by decide) (by kernel_rfl) (fun _ _ _ h => h) (by assumption) (Or.inl ⟨by rfl, ?_⟩) ?_
  · intro W hSW
    (try dsimp only at hSW)
    go_simp
  (try go_frame)
  refine wpAnyN_pure (i := 2) (oi := ⟨some 18, _, _, _, _, _⟩) (v := (.nilIface)) rfl (by kernel_rfl) (by kernel_rfl) (by kernel_rfl) (by decide) (fun _ _ _ h => h) (by first | exact .inr (by assumption) | exact .inl (by kernel_rfl)) (Or.inl ⟨by rfl, ?_⟩) ?_
  · intro W hSW
    (try dsimp only at hSW)
    go_simp
  (try go_frame)
  refine wpAnyN_pure (i := 3) (oi := ⟨some 19, _, _, _, _, _⟩) (v := (.bool true)) rfl (by kernel_rfl) (by kernel_rfl) (by kernel_rfl) (by decide) (fun _ _ _ h => h) (by first | exact .inr (by assumption) | exact .inl (by kernel_rfl)) (Or.inl ⟨by rfl, ?_⟩) ?_
  · intro W hSW
    (try dsimp only at hSW)
    go_simp
  (try go_frame)
  refine wpAnyN_only (i := 1) (oi := ⟨some 17, _, _, _, _, _⟩) rfl (by kernel_rfl) (fun K hK => ?_)
  go_simp
  refine CT.out.mono ?_
  rintro e w4 ⟨A4, c4, rfl, hft4, hb4⟩
  have hb34 : Below W3.heap.size W3 w4 := (Below.refl _ _).drew.trans hb4
  have hR4 := HR3.out.below hb34 HR3.out.lt
  have hP4 := HP3.out.below hb34 HP3.out.lt
  have hHeld4 : (∀ j, w4.cell? ⟨w2.heap.size, j, none⟩ = (#[.string p.err, .string p.dir, .slice A2 p.files.length c2] : Array Value)[j]?) := hP4.cell
  have d0 := hR4.cell 0
  have d1 := hR4.cell 1
  have d2 := hR4.cell 2
  have g0 := hR4.frozen 0
  have g1 := hR4.frozen 1
  have g2 := hR4.frozen 2
  have HR4 := Lib.hid hR4
  have HP4 := Lib.hid hP4
  have HFT := Lib.hid hft4
  have HB4 := Lib.hid (HB3.out.trans (hb34.mono HB3.out.size))
  clear hR4 hP4 hft4 hb4 hb34 CT
  go_wp2_with fail
  refine hK.out _ _ (.inr hHeld4) ?_
  clear hK K
  (try go_frame)
  clear hHeld
  refine wpAnyN_only (i := 4) (oi := ⟨none, _, _, _, _, _⟩) rfl (by kernel_rfl) (fun K hK => ?_)
  go_simp
  refine hK.out _ _ (.inl (by kernel_rfl)) ?_
  clear hK K
  (try go_frame)
  clear hHeld4
  refine wpAnyN_pure (i := 5) (oi := ⟨some 5, _, _, _, _, _⟩) (v := (.bool true)) rfl (by kernel_rfl) (by kernel_rfl) (by kernel_rfl) (by decide) (fun _ _ _ h => h) (by first | exact .inr (by assumption) | exact .inl (by kernel_rfl)) (Or.inl ⟨by rfl, ?_⟩) ?_
  · intro W hSW
    (try dsimp only at hSW)
    go_simp
  (try go_frame)
  refine wpAnyN_done (by kernel_rfl) (NoPanic.normal ?_)
  have hP5 := ((HR4.out.set_ 0 (.string p.err)).set_ 1 (.string p.dir)).set_ 2 (.slice A4 p.files.length c4)
  simp only [List.setIfInBounds_toArray, List.set_cons_zero, List.set_cons_succ] at hP5
  have z0 := hP5.cell 0
  have z1 := hP5.cell 1
  have z2 := hP5.cell 2
  simp only [List.getElem?_toArray, List.getElem?_cons_zero, List.getElem?_cons_succ] at z0 z1 z2
  have hS : SameOn [32] w4.heap.size w4 (((w4.setCell ⟨w.heap.size, 0, none⟩ (.string p.err)).setCell ⟨w.heap.size, 1, none⟩ (.string p.dir)).setCell ⟨w.heap.size, 2, none⟩ (.slice A4 p.files.length c4)) :=
    ((SameOn.setCell (p := ⟨w.heap.size, 0, none⟩) HR4.out (by decide)).trans (SameOn.setCell (p := ⟨w.heap.size, 1, none⟩) (HR4.out.set_ 0 _) (by decide))).trans (SameOn.setCell (p := ⟨w.heap.size, 2, none⟩) ((HR4.out.set_ 0 _).set_ 1 _) (by decide))
  obtain ⟨vf4, hv4, hl4⟩ := HFT.out
  have hfin : FoundI ps d w (.returned (.tuple #[.agg #[.string p.err, .string p.dir, .slice A4 p.files.length c4], .bool true])) (((w4.setCell ⟨w.heap.size, 0, none⟩ (.string p.err)).setCell ⟨w.heap.size, 1, none⟩ (.string p.dir)).setCell ⟨w.heap.size, 2, none⟩ (.slice A4 p.files.length c4)) :=
    ⟨A4, c4, p, rfl, ⟨vf4, hv4, ((hl4.same hS (by decide)).more (by simp)).imp fun _ _ h => (h.same hS (by decide) (by decide)).more (by simp)⟩, ((HB4.out.setCell (by exact Nat.le_refl _) _).setCell (by exact Nat.le_refl _) _).setCell (by exact Nat.le_refl _) _, HITS.out⟩
  have HFIN := Lib.hid hfin
  clear hfin hS hl4 hv4 hP5 d0 d1 d2 g0 g1 g2
  go_wp2_with fail
  refine bodyPost_ret (v := .tuple #[.agg #[.string p.err, .string p.dir, .slice A4 p.files.length c4], .bool true]) (by simp [results, Tryz.results13, go_sem, z0, z1, z2]) rfl HFIN.out
end Go.Proofs.YtanfimeajalffaaGreatDoor
