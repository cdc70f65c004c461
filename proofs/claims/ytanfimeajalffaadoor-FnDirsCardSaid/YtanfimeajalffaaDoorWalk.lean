/-
  The folders of an index: the closure that ZZDirs hands to Walk, and Walk. Conditions: what stands in the index (Idx).
-/
import Derived.Test.YtanfimeajalffaaDoorBad
import Derived.Test.YtanfimeajalffaaDoorPkg
import Derived.Test.YtanfimeajalffaaDoorEncode
namespace Go.Proofs.YtanfimeajalffaaDoor
open Go.RowKit

theorem BS.grownBut {w w' : World} {x : Value} {l : List UInt8} {gb n c : Nat} {t : TypeId} {A : Option Addr} (h : BS w x l) (hb : Blk w gb t #[.slice A n c]) (hg : w.grownBy w' (some gb)) : BS w' x l := by
  obtain ⟨A', c', hv, h1, h2, hp⟩ := h
  refine ⟨A', c', hv, h1, h2, fun h0 => ?_⟩
  obtain ⟨g, o, e, hc⟩ := hp h0
  refine ⟨g, o, e, fun j hj => ?_⟩
  have hcj := hc j hj
  by_cases hgb : g = gb
  · subst hgb
    rw [hb.cell] at hcj
    have hj0 : o + j = 0 := by
      have := (Array.getElem?_eq_some_iff.1 hcj).1
      simp at this
      omega
    rw [hj0] at hcj
    simp at hcj
  · exact (World.cell?_of_block (w := w) (hg.block g (cell_lt hcj) (fun e => hgb (by injection e)))).trans hcj
theorem DecAt.grownBut {w w' : World} {gd gb n c : Nat} {b t : List UInt8} {A : Option Addr} {ty : TypeId} (h : DecAt w gd b t) (hb : Blk w gb ty #[.slice A n c]) (hg : w.grownBy w' (some gb)) (hty : ty ≠ 100) : DecAt w' gd b t := by
  obtain ⟨vd, vs, h1, h2, h3⟩ := h
  exact ⟨vd, vs, h1.grownT hg (fun h e => by injection e with e; subst e; exact ⟨_, _, hb, hty⟩), h2.grownBut hb hg, h3.grownBut hb hg⟩
theorem ModAt.grownT {w w' : World} {gm gd n : Nat} {row : Option Nat} (h : ModAt w gm gd n) (hg : w.grownBy w' row) (hr : ∀ h, row = some h → ∃ t' cs', Blk w h t' cs' ∧ t' ≠ 90) : ModAt w' gm gd n := by
  obtain ⟨r, h⟩ := h
  exact ⟨r, h.grownT hg hr⟩

/-- A block of one slice of texts, the row its own. -/
def TextsIn (w : World) (gb base n : Nat) (ss : List ByteArray) : Prop := ∃ A c, Blk w gb 24 #[.slice A n c] ∧ w.ownsRow base 9 1 (.slice A n c) n (ss.map Value.string)

set_option maxHeartbeats 1000000 in
theorem dirsFn_any (gb base n : Nat) (s : ByteArray) (ss : List ByteArray) (w : World) (hn : n ≤ 1000) (hb : base ≤ w.heap.size) (hgb : gb < base) (h : TextsIn w gb base n ss) :
    Calls Tryd.prog 25 #[.string s, .pointer (some ⟨gb, 0, none⟩)] w fun e w' => e = .returned (.tuple #[]) ∧ TextsIn w' gb base (n + 1) (ss ++ [s]) ∧ ∀ w0 : World, w0.heap.size = base → w0.grownBy w (some gb) → w0.grownBy w' (some gb) := by
  obtain ⟨i1, hi1, hz3, hz4, hz5⟩ := info_parts' text_info
  obtain ⟨A, c, h1, h2⟩ := h
  have c0 := h1.cell 0
  have hlt := h1.lt
  have HB := Lib.hid (h1.alloc (.cells #[.string s] 9))
  have hown := h2.alloc (.cells #[.string s] 9)
  have hnew := cells_new w #[.string s] 9 w.heap.size rfl
  have H2 := Lib.hid h2
  clear h1 h2
  go_enter Tryd.func25, Tryd.ntmps25
  go_wp2_with (at_builtin; refine wpList_append_own_at _ rfl (.tmp 3) (.tmp 5) _ rfl base 9 i1 _ 1 16 Tryd.underlying24 hi1 hz3 hz4 hz5 rfl (by decide) _ n _ rfl hown ⟨w.heap.size, 0, none⟩ 1 1 [.string s] rfl rfl hnew (one_cell _ rfl) (by unfold maxLen; omega) (by omega) (by simp; omega) ?_; intro v4 w4 hown4 hgrow4 _ hat4; obtain ⟨A4, c4, rfl⟩ := own_form' hown4; have HB4 := Lib.hid (HB.out.grown hgrow4 (fun e => by have := (hown.lt _ e.symm).1; omega)); have q4 := HB4.out.cell 0; have f4 := HB4.out.frozen 0)
  refine bodyPost_end (results_none rfl _ _ _) rfl ?_
  refine ⟨rfl, ⟨A4, c4, ?_, ?_⟩, fun w0 h0 hg => ?_⟩
  · have := HB4.out.set_ 0 (.slice A4 (n + 1) c4)
    simp only [List.setIfInBounds_toArray, List.set_cons_zero] at this
    exact this
  · have := hown4.kept (grownBy_setCell w4 ⟨gb, 0, none⟩ (.slice A4 (n + 1) c4)) (.inr (own_blk_ne hown4 HB4.out (by decide)))
    rw [List.map_append]
    exact this
  · exact ((hg.trans (World.grownBy_alloc w (.cells #[.string s] 9) _)).andThen hgrow4 (fun j hj => .inl (by rw [h0]; exact (hown.lt _ hj).1))).trans (grownBy_setCell w4 ⟨gb, 0, none⟩ _)

set_option maxHeartbeats 2000000 in
set_option maxRecDepth 100000 in
theorem walk_any (gm gd gb : Nat) (ps : List PkgD) (b t : List UInt8) (w : World) (hm : ModAt w gm gd ps.length) (hd : DecAt w gd b t) (hi : Idx b t ps) (hg : Blk w gb 24 #[.slice none 0 0]) :
    Calls Tryd.prog 24 #[.pointer (some ⟨gm, 0, none⟩), .func (.func 25) #[] #[.pointer (some ⟨gb, 0, none⟩)]] w fun e w' => e = .returned (.tuple #[]) ∧ TextsIn w' gb w.heap.size ps.length (ps.map PkgD.dir) ∧ w.grownBy w' (some gb) := by
  have HM := Lib.hid hm
  have HD := Lib.hid hd
  have HI := Lib.hid hi
  have HG := Lib.hid hg
  have hn := hi.n
  clear hm hd hi hg
  go_enter_defers Tryd.func24, Tryd.ntmps24
  go_wp2_with fail
  go_loopw [4] (fun i wr => ∃ k : Nat, k ≤ ps.length ∧ i = .int .i64 k ∧ TextsIn wr gb w.heap.size k ((ps.take k).map PkgD.dir) ∧ w.grownBy wr (some gb)) (fun i _ => ps.length - (intOf i).toNat)
  case atStart => exact ⟨0, Nat.zero_le _, rfl, ⟨none, 0, HG.out, World.ownsRow_nil _ _ _ _⟩, World.grownBy.refl _ _⟩
  case round =>
    obtain ⟨k, hk, rfl, hT, hgr⟩ := hrel
    have hsz := hgr.size
    have hgl := HG.out.lt
    have hmr := HM.out.grownT hgr (fun h e => by injection e with e; subst e; exact ⟨_, _, HG.out, by decide⟩)
    have hdr := HD.out.grownBut HG.out hgr (by decide)
    obtain ⟨r, hmb⟩ := id hmr
    have c2 : wr.cell? ⟨gm, 2, none⟩ = some (.int .i64 (ps.length : Int)) := hmb.cell 2
    by_cases hlt : k < ps.length
    · have C := Lib.hid (pkgDir_any gm gd ps b t wr k hlt hmr hdr HI.out)
      have hts : (ps.take (k + 1)).map PkgD.dir = (ps.take k).map PkgD.dir ++ [ps[k].dir] := by rw [take_snoc' ps k hlt, List.map_append]; rfl
      have HTS := Lib.hid hts
      have CF := Lib.hid (fun n => dirsFn_any gb w.heap.size k ps[k].dir ((ps.take k).map PkgD.dir) (wr.drewN n) (by omega) hsz hgl hT)
      have HGR := Lib.hid hgr
      clear hts hT hgr hmr hdr hmb
      generalize ps[k].dir = s at *
      go_wp2_with fail
      refine C.out.mono ?_
      rintro e w2 ⟨rfl, j, rfl⟩
      go_wp2_with fail
      refine (CF.out _).mono ?_
      rintro e w3 ⟨rfl, hT3, hg3⟩
      rw [← HTS.out] at hT3
      have hg4 := hg3 w rfl ⟨HGR.out.os, HGR.out.tape, HGR.out.output, HGR.out.size, HGR.out.block⟩
      have HT3 := Lib.hid hT3
      have HG4 := Lib.hid hg4
      clear hT3 hg3 hg4
      go_wp2_with fail
      go_roundw
      case rel => exact ⟨k + 1, by omega, by go_num, HT3.out, HG4.out⟩
      case measure => simp [intOf]; omega
    · have hkl : k = ps.length := by omega
      subst hkl
      rw [List.take_length] at hT
      have HT := Lib.hid hT
      have HGR := Lib.hid hgr
      clear hT hgr hmr hdr hmb
      go_wp2_with fail
      refine leaves_cons (f := 28) (args := #[.pointer none]) (by simp) (by simp [go_sem]) ?_
      refine (unprotect_idle _ _).mono ?_
      rintro e u' w'' ⟨rfl, rfl, rfl⟩
      simp [Leaves, settle, results, Tryd.results24]
      exact ⟨HT.out, HGR.out⟩

set_option maxHeartbeats 2000000 in
set_option maxRecDepth 100000 in
theorem zzDirs_ok (v : Value) (l : List UInt8) (ps : List PkgD) (w : World) (hb : BS w v l) (hi : IndexIs l ps) (hn : ps.length ≤ 10) (hok : ∀ p ∈ ps, p.Ok) :
    Calls Tryd.prog 16 #[v] w fun e w' => ∃ A c, e = .returned (.tuple #[.slice A ps.length c, .nilIface]) ∧ w'.ownsRow w.heap.size 9 1 (.slice A ps.length c) ps.length ((ps.map PkgD.dir).map Value.string) ∧ Below w.heap.size w w' := by
  have hbe : Below w.heap.size w (w.alloc (.cells #[.slice none 0 0] 24)) := (Below.refl _ _).alloc (Nat.le_refl _) _
  have C := Lib.hid (fromBytes_ok { data := #[] } v l ps (w.alloc (.cells #[.slice none 0 0] 24)) (hb.below hbe) hi hn hok)
  obtain ⟨A, c, rfl, hA⟩ := id hb
  have hB := Lib.hid (Blk.new w 24 #[.slice none 0 0])
  clear hA hb hok
  go_enter Tryd.func16, Tryd.ntmps16
  go_wp2_with fail
  refine C.out.mono ?_
  rintro e w1 ⟨gm, gd, b, t, rfl, hm, hd, hix, hb1⟩
  have hbl : Below (w.heap.size + 1) (w.alloc (.cells #[.slice none 0 0] 24)) w1 := by rw [World.size_alloc] at hb1; exact hb1
  have HB1 := Lib.hid (hB.out.below hbl (by omega))
  have hbel := hbe.trans (hbl.mono (by omega))
  have HM := Lib.hid hm
  have HD := Lib.hid hd
  have HI := Lib.hid hix
  clear hb1 hbl hbe hm hd hix hi
  go_wp2_with fail
  refine (walk_any gm gd w.heap.size ps b t w1 HM.out HD.out HI.out HB1.out).mono ?_
  rintro e w2 ⟨rfl, ⟨A2, c2, hB2, hO2⟩, hg2⟩
  have c0 := hB2.cell 0
  have f0 := hB2.frozen 0
  have hs : (w2.setCell ⟨w.heap.size, 0, none⟩ (.slice A2 ps.length c2)).cell? ⟨w.heap.size, 0, none⟩ = some (.slice A2 ps.length c2) := (hB2.set_ 0 _).cell 0
  have HO2 := Lib.hid (own_less (hO2.kept (grownBy_setCell w2 ⟨w.heap.size, 0, none⟩ (.slice A2 ps.length c2)) (.inr (own_blk_ne hO2 hB2 (by decide)))) hbel.size)
  have HBL := Lib.hid ((hbel.grown hg2 hbel.size (fun k hk => by injection hk with hk; omega)).setCell (p := ⟨w.heap.size, 0, none⟩) (Nat.le_refl _) (.slice A2 ps.length c2))
  clear hB2 hO2 hg2 hbel
  go_wp2_with fail
  refine bodyPost_ret (v := .tuple #[.slice A2 ps.length c2, .nilIface]) (by simp [results, Tryd.results16, go_sem, hs]) rfl ?_
  exact ⟨A2, c2, rfl, HO2.out, HBL.out⟩
end Go.Proofs.YtanfimeajalffaaDoor
