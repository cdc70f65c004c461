/-
  The contract of ZZDecode on an index: the packages, as the package's own data. Conditions: the bytes are an index of packages (IndexIs).
-/
import Derived.Test.YtanfimeajalffaaGreatDoorZZPkg
import Derived.Test.YtanfimeajalffaaGreatDoorFrom
import Derived.Test.YtanfimeajalffaaGreatDoorGD
namespace Go.Proofs.YtanfimeajalffaaGreatDoor
open Go.RowKit
attribute [local go_sem ↓] Go.wp_at_zero Go.wp_at_succ

/-- Packages in the package's own data, and no error. -/
def Decoded (ps : List PkgD) (w : World) (e : Ending) (w' : World) : Prop :=
  ∃ v, e = .returned (.tuple #[v, .nilIface]) ∧ ListOwn w' w.heap.size 52 3 (PkgT w' w'.heap.size 56 90) v ps ∧ Below w.heap.size w w'

theorem nil_no (j : Nat) (n : Int) : (#[Value.nilIface] : Array Value)[j]? ≠ some (Value.int .u8 n) := by rcases j with _ | j <;> simp

theorem ListOwn.less {α : Type} {w : World} {base base' size : Nat} {e : TypeId} {R : List Value → α → Prop} {v : Value} {xs : List α} (h : ListOwn w base e size R v xs) (hb : base' ≤ base) : ListOwn w base' e size R v xs := by
  obtain ⟨css, h1, h2⟩ := h
  exact ⟨css, own_less h1 hb, h2⟩

/-- What holds bytes holds them still, if the block that has changed holds no byte. -/
theorem BS.grownNil {w w' : World} {x : Value} {l : List UInt8} {gb : Nat} {t : TypeId} {cs : Array Value} (h : BS w x l) (hb : Blk w gb t cs) (hg : w.grownBy w' (some gb)) (hn : ∀ (j : Nat) (n : Int), cs[j]? ≠ some (Value.int .u8 n)) : BS w' x l := by
  obtain ⟨A', c', hv, h1, h2, hp⟩ := h
  refine ⟨A', c', hv, h1, h2, fun h0 => ?_⟩
  obtain ⟨g, o, e, hc⟩ := hp h0
  refine ⟨g, o, e, fun j hj => ?_⟩
  have hcj := hc j hj
  by_cases hgb : g = gb
  · subst hgb
    rw [hb.cell] at hcj
    exact absurd hcj (hn _ _)
  · exact (World.cell?_of_block (w := w) (hg.block g (cell_lt hcj) (fun e => hgb (by injection e)))).trans hcj

set_option maxHeartbeats 8000000 in
set_option maxRecDepth 100000 in
theorem zzDecode_ok (v : Value) (l : List UInt8) (ps : List PkgD) (w : World) (hb : BS w v l) (hi : IndexIs l ps) (hn : ps.length ≤ 10) (hok : ∀ p ∈ ps, p.Ok) :
    Calls Tryz.prog 18 #[v] w (Decoded ps w) := by
  obtain ⟨i1, hi1, hz3, hz4, hz5⟩ := info_parts' mpkg_info
  have hbe : Below w.heap.size w (w.alloc (.cells #[.nilIface] 47)) := (Below.refl _ _).alloc (Nat.le_refl _) _
  have C := Lib.hid (fromBytes_ok { data := #[] } v l ps (w.alloc (.cells #[.nilIface] 47)) (hb.below hbe) hi hn hok)
  obtain ⟨A, c, rfl, hA⟩ := id hb
  have hB := Lib.hid (Blk.new w 47 #[.nilIface])
  have HOK := Lib.hid hok
  clear hA hb hok hi
  go_enter_defers Tryz.func18, Tryz.ntmps18
  go_wp2_with fail
  refine C.out.mono ?_
  rintro e w1 ⟨gm, gd, b, t, rfl, hm, hd, hix, hb1⟩
  have hbl : Below (w.heap.size + 1) (w.alloc (.cells #[.nilIface] 47)) w1 := by rw [World.size_alloc] at hb1; exact hb1
  have hB1 := hB.out.below hbl (by omega)
  have hbel := hbe.trans (hbl.mono (by omega))
  have c0 := hB1.cell 0
  have f0 := hB1.frozen 0
  have hgs := grownBy_setCell w1 ⟨w.heap.size, 0, none⟩ .nilIface
  obtain ⟨W2, HW2⟩ : ∃ W2, W2 = w1.setCell ⟨w.heap.size, 0, none⟩ .nilIface := ⟨_, rfl⟩
  have hm2 : ModAt W2 gm gd ps.length := by
    obtain ⟨r, h⟩ := hm
    rw [HW2]
    exact ⟨r, h.grownT hgs (fun h e => by injection e with e; subst e; exact ⟨_, _, hB1, by decide⟩)⟩
  have hd2 : DecAt W2 gd b t := by
    rw [HW2]
    obtain ⟨vd, vs, h1, h2, h3⟩ := hd
    exact ⟨vd, vs, h1.grownT hgs (fun h e => by injection e with e; subst e; exact ⟨_, _, hB1, by decide⟩), BS.grownNil h2 hB1 hgs nil_no, BS.grownNil h3 hB1 hgs nil_no⟩
  have hE2 : Blk W2 w.heap.size 47 #[.nilIface] := by rw [HW2]; exact hB1.set_ 0 .nilIface
  have hbel2 : Below w.heap.size w W2 := by rw [HW2]; exact hbel.setCell (Nat.le_refl _) _
  have HM := Lib.hid hm2
  have HD := Lib.hid hd2
  have HI := Lib.hid hix
  have HE := Lib.hid hE2
  have HBEL := Lib.hid hbel2
  have HW := Lib.hid HW2
  clear hm hd hix hb1 hbl hbe hbel hB1 hgs hm2 hd2 hE2 hbel2 HW2
  go_wp2_with fail
  rw [show w1.setCell ⟨w.heap.size, 0, none⟩ .nilIface = W2 from HW.out.symm]
  clear HW c0 f0
  go_loopw [2, 5] (fun v i wr => ∃ k : Nat, k ≤ ps.length ∧ i = .int .i64 k ∧ ListOwn wr W2.heap.size 52 3 (PkgT wr wr.heap.size 56 90) v (ps.take k) ∧ Below W2.heap.size W2 wr) (fun _ i _ => ps.length - (intOf i).toNat)
  case atStart => exact ⟨0, Nat.zero_le _, rfl, ListOwn.nil rfl _, Below.refl _ _⟩
  case round =>
    obtain ⟨k, hk, rfl, hown, hF⟩ := hrel
    have hsz := hF.size
    have hmr := HM.out.below hF
    have hdr := HD.out.below hF
    obtain ⟨r, hmb⟩ := id hmr
    have c2 : wr.cell? ⟨gm, 2, none⟩ = some (.int .i64 (ps.length : Int)) := hmb.cell 2
    by_cases hlt : k < ps.length
    · obtain ⟨off, hi9, hoff, hpk⟩ := HI.out.pkgs k _ (List.getElem?_eq_getElem hlt)
      have hokp := HOK.out _ (List.getElem_mem hlt)
      have hts := Lib.hid (take_snoc' ps k hlt)
      have hk0 : (0 : Int) ≤ (k : Int) := by omega
      generalize ps[k] = p at *
      have CP := Lib.hid (pkg_any gm gd off hi9 ps.length k p b t wr hlt hn hmr hdr hoff hpk hokp)
      have CZ := Lib.hid (fun (W : World) (gp : Nat) (hW : Below wr.heap.size wr W) (h : IPkg W gp gd b t p) => zzPackage_any gp gd p b t W (hdr.below hW) h hokp)
      have HOWN := Lib.hid hown
      clear hown hmr hdr hmb hoff hpk hokp
      go_wp2_with fail
      refine CP.out.mono ?_
      rintro e w5 ⟨gp, rfl, hip, hb5⟩
      have CZ5 := Lib.hid (CZ.out w5 gp hb5 hip)
      have HB5 := Lib.hid hb5
      clear hip hb5 CZ CP
      go_wp2_with fail
      refine CZ5.out.mono ?_
      rintro e w6 ⟨cs, rfl, hpt, hb6⟩
      obtain ⟨vf, rfl, hft⟩ := hpt
      obtain ⟨Ax, cx, rfl⟩ : ∃ A c, vf = .slice A p.files.length c := ListAt.form hft.at_
      have hb56 := HB5.out.trans (hb6.mono HB5.out.size)
      have hsz6 : wr.heap.size ≤ w6.heap.size := hb56.size
      obtain ⟨css, o1, o2, o3, o4⟩ := HOWN.out
      have htl : (ps.take k).length = k := List.length_take_of_le (by omega)
      rw [htl] at o1 o2
      have hoW := (own_below o1 hb56).alloc (.cells #[.string p.err, .string p.dir, .slice Ax p.files.length cx] 52)
      have hnew := cells_new w6 #[.string p.err, .string p.dir, .slice Ax p.files.length cx] 52 w6.heap.size rfl
      have O4 := Lib.hid o4
      have HOX := Lib.hid hft
      have HB56 := Lib.hid hb56
      clear o1 o4 hft hb6 hb56 CZ5
      go_wp2_with (at_builtin; refine wpList_append_own_at _ rfl (.tmp 22) (.tmp 27) _ rfl W2.heap.size 52 i1 _ 3 56 Tryz.underlying45 hi1 hz3 hz4 hz5 rfl (by decide) _ k css.flatten rfl hoW ⟨w6.heap.size, 0, none⟩ 1 1 [.string p.err, .string p.dir, .slice Ax p.files.length cx] rfl rfl hnew (by intro u hu; simp only [List.mem_cons, List.not_mem_nil, or_false] at hu; rcases hu with rfl | rfl | rfl <;> rfl) (by unfold maxLen; omega) (by omega) (by simp; omega) ?_; intro v4 w4 hown4 hgrow4 _ hat4)
      have hS1 : SameOn [52] w6.heap.size w6 w4 := (SameOn.below ((Below.refl w6.heap.size w6).alloc (Nat.le_refl _) _) (Nat.le_refl _)).trans (SameOn.own hoW hgrow4 (by decide))
      have hS0 : SameOn [52] wr.heap.size wr w4 := (SameOn.below HB56.out (Nat.le_refl _)).trans (hS1.less hsz6)
      have hsz4 : w6.heap.size ≤ w4.heap.size := by have := hgrow4.size; simp at this; omega
      have hL : ListOwn w4 W2.heap.size 52 3 (PkgT w4 w4.heap.size 56 90) v4 (ps.take (k + 1)) := by
        rw [hts.out]
        refine ListOwn.snoc (cs := [.string p.err, .string p.dir, .slice Ax p.files.length cx]) (css := css) ?_ (by rw [o2, htl]) o3 (fun i cs x a b => ((O4.out i cs x a b).same hS0 (by decide) (by decide) (by decide)).more (by omega)) rfl ?_
        · rw [htl]
          exact hown4
        · exact ⟨_, rfl, ((HOX.out.same hS1 (by decide)).more hsz4).imp fun _ _ h => (h.same hS1 (by decide) (by decide)).more hsz4⟩
      have hFF : Below W2.heap.size W2 w4 := ((hF.trans (HB56.out.mono hsz)).alloc (by omega) _).grown hgrow4 (by simp; omega) (fun j hj => (hoW.lt j hj).1)
      have HL2 := Lib.hid hL
      have HFF := Lib.hid hFF
      clear hL hFF hS1 hS0 hown4 hgrow4 hat4 hoW hnew
      go_roundw
      case rel => exact ⟨k + 1, by omega, by go_num, HL2.out, HFF.out⟩
      case measure => simp [intOf]; omega
    · have hkl : k = ps.length := by omega
      subst hkl
      rw [List.take_length] at hown
      have hER := HE.out.below hF HE.out.lt
      have e0 := hER.cell 0
      have f0 := hER.frozen 0
      have c10 : (wr.setCell ⟨w.heap.size, 0, none⟩ .nilIface).cell? ⟨w.heap.size, 0, none⟩ = some .nilIface := (hER.set_ 0 .nilIface).cell 0
      have hS : SameOn [47] wr.heap.size wr (wr.setCell ⟨w.heap.size, 0, none⟩ .nilIface) := SameOn.setCell (p := ⟨w.heap.size, 0, none⟩) hER (by decide)
      have hfin : Decoded ps w (.returned (.tuple #[u2, .nilIface])) (wr.setCell ⟨w.heap.size, 0, none⟩ .nilIface) := by
        obtain ⟨css, o1, o2, o3, o4⟩ := hown
        refine ⟨u2, rfl, ⟨css, own_less (o1.kept (grownBy_setCell wr ⟨w.heap.size, 0, none⟩ .nilIface) (.inr (own_blk_ne o1 hER (by decide)))) HBEL.out.size, o2, o3, fun i cs x a b => ((o4 i cs x a b).same hS (by decide) (by decide) (by decide)).more (by simp)⟩, (HBEL.out.trans (hF.mono HBEL.out.size)).setCell (Nat.le_refl _) _⟩
      have HFIN := Lib.hid hfin
      clear hfin hS hER hown hmr hdr hmb
      go_wp2_with fail
      refine leaves_cons (f := 27) (args := #[.pointer (some ⟨w.heap.size, 0, none⟩)]) (by simp) (by simp [go_sem]) ?_
      refine (unprotect_idle _ _).mono ?_
      rintro e u' w'' ⟨rfl, rfl, rfl⟩
      simp [Leaves, settle, results, Tryz.results18, go_sem, c10]
      exact HFIN.out
end Go.Proofs.YtanfimeajalffaaGreatDoor
