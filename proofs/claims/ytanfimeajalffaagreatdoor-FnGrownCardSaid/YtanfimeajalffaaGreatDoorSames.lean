/-
  The contracts of SameTexts, SameDirectives, SameFile, SamePackage, SamePackages: they tell whether two are equal. Conditions: the premises of each theorem.
-/
import Derived.Test.YtanfimeajalffaaGreatDoorGC
import Derived.Test.YtanfimeajalffaaGreatDoorGE
import Derived.Deep.DrawnRows
namespace Go.Proofs.YtanfimeajalffaaGreatDoor
open Go.RowKit
attribute [local go_sem ↓] Go.wp_at_zero Go.wp_at_succ

/-- An answer that says just whether p; what lay there lies there still. -/
def Exact (p : Prop) (w : World) (e : Ending) (w' : World) : Prop := ∃ b : Bool, e = .returned (.bool b) ∧ Below w.heap.size w w' ∧ (b = true ↔ p)

theorem bytes_ne {s t : ByteArray} (h : s ≠ t) : s.toList ≠ t.toList := by
  intro e
  rw [ByteArray.toList_eq, ByteArray.toList_eq] at e
  have e2 := Array.toList_inj.1 e
  cases s
  cases t
  exact h (congrArg ByteArray.mk e2)

theorem bytes_eq {s t : ByteArray} (h : s.toList = t.toList) : s = t := Classical.byContradiction fun hn => bytes_ne hn h
theorem dir_ext {d e : DirD} (h1 : d.text = e.text) (h2 : d.at_.fn = e.at_.fn) (h3 : d.at_.o = e.at_.o) (h4 : d.at_.l = e.at_.l) (h5 : d.at_.c = e.at_.c) : d = e := by
  obtain ⟨a, b, c, x, y⟩ := d
  obtain ⟨a', b', c', x', y'⟩ := e
  simp only at h1 h2 h3 h4 h5
  rw [h1, h2, h3, h4, h5]
theorem below_drewN {B : Nat} {a w : World} (h : Below B a w) (n : Nat) : Below B a (w.drewN n) := ⟨h.os, h.tape, h.output, h.size, h.block⟩
theorem below_drewN' {B : Nat} {a w : World} (h : Below B a w) (n : Nat) : Below B a (w.drewN n) := below_drewN h n

theorem eq_of_take {α : Type} {xs ys : List α} (hl : xs.length = ys.length) (h : ∀ j x y, j < xs.length → xs[j]? = some x → ys[j]? = some y → x = y) : xs = ys := by
  refine List.ext_getElem hl fun i h1 h2 => h i _ _ h1 (List.getElem?_eq_getElem h1) (List.getElem?_eq_getElem h2)
/-- So far alike. -/
def Alike_ {α : Type} (xs ys : List α) (k : Nat) : Prop := ∀ j x y, j < k → xs[j]? = some x → ys[j]? = some y → x = y
theorem alike_succ {α : Type} {xs ys : List α} {k : Nat} (h : Alike_ xs ys k) (h1 : k < xs.length) (h2 : k < ys.length) (he : xs[k] = ys[k]) : Alike_ xs ys (k + 1) := by
  intro j x y hj hx hy
  by_cases hjk : j = k
  · subst hjk
    rw [List.getElem?_eq_getElem h1] at hx
    rw [List.getElem?_eq_getElem h2] at hy
    injection hx with hx
    injection hy with hy
    rw [← hx, ← hy, he]
  · exact h j x y (by omega) hx hy
theorem alike_ne {α : Type} {xs ys : List α} {k : Nat} (h1 : k < xs.length) (h2 : k < ys.length) (he : xs[k] ≠ ys[k]) : xs ≠ ys := by
  rintro rfl
  exact he rfl

set_option maxHeartbeats 1000000 in
theorem sameTexts_any (B : Nat) (u v : Value) (xs ys : List ByteArray) (w : World) (hl : xs.length ≤ 9223372036854775807) (hx : StrsAt w B u xs) (hy : StrsAt w B v ys) :
    Calls Tryz.prog 34 #[u, v] w (Exact (xs = ys) w) := by
  obtain ⟨A, c, rfl, hrx⟩ := hx
  obtain ⟨A', c', rfl, hry⟩ := hy
  have HX := Lib.hid hrx
  have HY := Lib.hid hry
  clear hrx hry
  by_cases hlen : (xs.length : Int) = (ys.length : Int)
  · have hle : ys.length ≤ xs.length := by omega
    have hge : xs.length ≤ ys.length := by omega
    go_enter Tryz.func34, Tryz.ntmps34
    go_wp2_with fail
    go_loop [5, 6, 14] (fun _ _ i => ∃ k : Nat, k ≤ xs.length ∧ i = .int .i64 k ∧ Alike_ xs ys k) (fun _ _ i => xs.length - (intOf i).toNat)
    case atStart => exact ⟨0, Nat.zero_le _, rfl, fun j _ _ h => by omega⟩
    case round =>
      obtain ⟨k, hk, rfl, hal⟩ := hrel
      by_cases hlt : k < xs.length
      · have hlt2 : k < ys.length := by omega
        obtain ⟨ag, ao, rfl, hab, hc0⟩ := StrsAt.cell HX.out k hlt
        obtain ⟨bg, bo, rfl, hbb, hd0⟩ := StrsAt.cell HY.out k hlt2
        have HS := Lib.hid (alike_succ hal hlt hlt2)
        have HN : Hid (xs[k] ≠ ys[k] → xs ≠ ys) := Lib.hid (alike_ne hlt hlt2)
        generalize xs[k] = s at hc0 HS HN
        generalize ys[k] = t at hd0 HS HN
        clear hal
        by_cases hst : s = t
        · subst hst
          go_wp2_with fail
          go_round
          case rel => exact ⟨k + 1, by omega, by go_num, HS.out rfl⟩
          case measure => simp [intOf]; omega
        · have hb1 := bytes_ne hst
          have hb2 : (s.toList == t.toList) = false := by simpa using hb1
          go_wp2_with fail
          go_ret
          exact ⟨_, rfl, Below.refl _ _, by simp [HN.out hst]⟩
      · have hkl : k = xs.length := by omega
        subst hkl
        have HE : Hid (xs = ys) := Lib.hid (eq_of_take (by omega) hal)
        clear hal
        go_wp2_with fail
        go_ret
        exact ⟨_, rfl, Below.refl _ _, by simp [HE.out]⟩
  · have HNE : Hid (xs ≠ ys) := Lib.hid (by rintro rfl; exact hlen rfl)
    go_enter Tryz.func34, Tryz.ntmps34
    go_wp2_with fail
    go_ret
    exact ⟨_, rfl, Below.refl _ _, by simp [HNE.out]⟩

set_option maxHeartbeats 1000000 in
theorem sameDirs_any (B : Nat) (u v : Value) (xs ys : List DirD) (w : World) (hB : B ≤ w.heap.size) (hl : xs.length ≤ 9223372036854775807) (hx : DirsAt w B u xs) (hy : DirsAt w B v ys) :
    Calls Tryz.prog 35 #[u, v] w (Exact (xs = ys) w) := by
  obtain ⟨A, c, rfl, hrx⟩ := hx
  obtain ⟨A', c', rfl, hry⟩ := hy
  have HX := Lib.hid hrx
  have HY := Lib.hid hry
  clear hrx hry
  by_cases hlen : (xs.length : Int) = (ys.length : Int)
  · have hle : ys.length ≤ xs.length := by omega
    have hge : xs.length ≤ ys.length := by omega
    go_enter Tryz.func35, Tryz.ntmps35
    go_wp2_with fail
    go_loopw [5, 6, 14] (fun _ _ i wr => ∃ k : Nat, k ≤ xs.length ∧ i = .int .i64 k ∧ Below w.heap.size w wr ∧ Alike_ xs ys k) (fun _ _ i _ => xs.length - (intOf i).toNat)
    case atStart => exact ⟨0, Nat.zero_le _, rfl, Below.refl _ _, fun j _ _ h => by omega⟩
    case round =>
      obtain ⟨k, hk, rfl, hF, hal⟩ := hrel
      obtain ⟨wo, rfl⟩ : ∃ wo : World, wo = wr := ⟨_, rfl⟩
      have hsz := hF.size
      by_cases hlt : k < xs.length
      · have hlt2 : k < ys.length := by omega
        obtain ⟨ag, ao, rfl, hab, a0, a1, a2, a3, a4⟩ := DirsAt.cells (HX.out.below (hF.mono hB)) k hlt
        obtain ⟨bg, bo, rfl, hbb, b0, b1, b2, b3, b4⟩ := DirsAt.cells (HY.out.below (hF.mono hB)) k hlt2
        have HS := Lib.hid (alike_succ hal hlt hlt2)
        have HN : Hid (xs[k] ≠ ys[k] → xs ≠ ys) := Lib.hid (alike_ne hlt hlt2)
        have i1 : (0 : Int) ≤ (k : Int) := by omega
        have i2 : (k : Int) < (ys.length : Int) := by omega
        generalize xs[k] = d at a0 a1 a2 a3 a4 HS HN
        generalize ys[k] = e at b0 b1 b2 b3 b4 HS HN
        have hbgl : bg < wo.heap.size := Nat.lt_of_lt_of_le hbb (Nat.le_trans hB hsz)
        have hF2 : ∀ n, Below w.heap.size w ((wo.alloc (.cells #[.string d.text, .string d.at_.fn, .int .i64 d.at_.o, .int .i64 d.at_.l, .int .i64 d.at_.c] 101)).drewN n) := fun n => below_drewN (hF.alloc hsz _) n
        have HF2 := Lib.hid hF2
        have HH : Hid ((∀ j, (wo.alloc (.cells #[.string d.text, .string d.at_.fn, .int .i64 d.at_.o, .int .i64 d.at_.l, .int .i64 d.at_.c] 101)).drew.cell? ⟨wo.heap.size, j, none⟩ = (#[.string d.text, .string d.at_.fn, .int .i64 d.at_.o, .int .i64 d.at_.l, .int .i64 d.at_.c] : Array Value)[j]?) ∧ (wo.alloc (.cells #[.string d.text, .string d.at_.fn, .int .i64 d.at_.o, .int .i64 d.at_.l, .int .i64 d.at_.c] 101)).drew.cell? ⟨bg, bo + k * 5, none⟩ = some (.string e.text) ∧ (wo.alloc (.cells #[.string d.text, .string d.at_.fn, .int .i64 d.at_.o, .int .i64 d.at_.l, .int .i64 d.at_.c] 101)).drew.cell? ⟨bg, bo + k * 5 + 1, none⟩ = some (.string e.at_.fn) ∧ (wo.alloc (.cells #[.string d.text, .string d.at_.fn, .int .i64 d.at_.o, .int .i64 d.at_.l, .int .i64 d.at_.c] 101)).drew.cell? ⟨bg, bo + k * 5 + 2, none⟩ = some (.int .i64 e.at_.o) ∧ (wo.alloc (.cells #[.string d.text, .string d.at_.fn, .int .i64 d.at_.o, .int .i64 d.at_.l, .int .i64 d.at_.c] 101)).drew.cell? ⟨bg, bo + k * 5 + 3, none⟩ = some (.int .i64 e.at_.l) ∧ (wo.alloc (.cells #[.string d.text, .string d.at_.fn, .int .i64 d.at_.o, .int .i64 d.at_.l, .int .i64 d.at_.c] 101)).drew.cell? ⟨bg, bo + k * 5 + 4, none⟩ = some (.int .i64 e.at_.c)) := Lib.hid ⟨(Blk.new wo 101 #[.string d.text, .string d.at_.fn, .int .i64 d.at_.o, .int .i64 d.at_.l, .int .i64 d.at_.c]).cell, (World.cell?_alloc_lt wo _ _ hbgl).trans b0, (World.cell?_alloc_lt wo _ _ hbgl).trans b1, (World.cell?_alloc_lt wo _ _ hbgl).trans b2, (World.cell?_alloc_lt wo _ _ hbgl).trans b3, (World.cell?_alloc_lt wo _ _ hbgl).trans b4⟩
        clear hal hF2
        go_wp2_with fail
        refine wp_region_m 99 (fun W => (∀ j, W.cell? ⟨wo.heap.size, j, none⟩ = (#[.string d.text, .string d.at_.fn, .int .i64 d.at_.o, .int .i64 d.at_.l, .int .i64 d.at_.c] : Array Value)[j]?) ∧ W.cell? ⟨bg, bo + k * 5, none⟩ = some (.string e.text) ∧ W.cell? ⟨bg, bo + k * 5 + 1, none⟩ = some (.string e.at_.fn) ∧ W.cell? ⟨bg, bo + k * 5 + 2, none⟩ = some (.int .i64 e.at_.o) ∧ W.cell? ⟨bg, bo + k * 5 + 3, none⟩ = some (.int .i64 e.at_.l) ∧ W.cell? ⟨bg, bo + k * 5 + 4, none⟩ = some (.int .i64 e.at_.c)) (by kernel_rfl) ?_
        have hHeld := HH.out
        refine wpAnyM_take (i := 0) (oi := ⟨some 19, _, _, _, _, _⟩) (v := (.agg #[.string d.text, .string d.at_.fn, .int .i64 d.at_.o, .int .i64 d.at_.l, .int .i64 d.at_.c])) rfl (by kernel_rfl) (by kernel_rfl) (by kernel_rfl) (by kernel_rfl) (by decide) (fun _ _ _ h => h) (by assumption) (Or.inl ⟨by rfl, ?_⟩) ?_
        · intro W hSW
          (try dsimp only at hSW)
          go_simp
        (try go_frame)
        refine wpAnyM_take (i := 1) (oi := ⟨some 20, _, _, _, _, _⟩) (v := (.slice (some ⟨bg, bo, none⟩) ys.length c')) rfl (by kernel_rfl) (by kernel_rfl) (by kernel_rfl) (by kernel_rfl) (by decide) (fun _ _ _ h => h) (by assumption) (Or.inl ⟨by rfl, ?_⟩) ?_
        · intro W hSW
          (try dsimp only at hSW)
          go_simp
        (try go_frame)
        refine wpAnyM_take (i := 2) (oi := ⟨some 21, _, _, _, _, _⟩) (v := (.int .i64 k)) rfl (by kernel_rfl) (by kernel_rfl) (by kernel_rfl) (by kernel_rfl) (by decide) (fun _ _ _ h => h) (by assumption) (Or.inl ⟨by rfl, ?_⟩) ?_
        · intro W hSW
          (try dsimp only at hSW)
          go_simp
        (try go_frame)
        refine wpAnyM_take (i := 3) (oi := ⟨some 22, _, _, _, _, _⟩) (v := (.pointer (some ⟨bg, bo + k * 5, none⟩))) rfl (by kernel_rfl) (by kernel_rfl) (by kernel_rfl) (by kernel_rfl) (by decide) (fun _ _ _ h => h) (by assumption) (Or.inl ⟨by rfl, ?_⟩) ?_
        · intro W hSW
          (try dsimp only at hSW)
          go_simp
        (try go_frame)
        refine wpAnyM_take (i := 4) (oi := ⟨some 23, _, _, _, _, _⟩) (v := (.agg #[.string e.text, .string e.at_.fn, .int .i64 e.at_.o, .int .i64 e.at_.l, .int .i64 e.at_.c])) rfl (by kernel_rfl) (by kernel_rfl) (by kernel_rfl) (by kernel_rfl) (by decide) (fun _ _ _ h => h) (by assumption) (Or.inl ⟨by rfl, ?_⟩) ?_
        · intro W hSW
          (try dsimp only at hSW)
          go_simp
        (try go_frame)
        by_cases hde : d = e
        · subst hde
          refine wpAnyM_take (i := 5) (oi := ⟨some 24, _, _, _, _, _⟩) (v := (.bool false)) rfl (by kernel_rfl) (by kernel_rfl) (by kernel_rfl) (by kernel_rfl) (by decide) (fun _ _ _ h => h) (by assumption) (Or.inl ⟨by rfl, ?_⟩) ?_
          · intro W hSW
            (try dsimp only at hSW)
            go_simp
          (try go_frame)
          refine wpAnyM_done (by kernel_rfl) (NoPanic.normal ?_)
          clear hHeld
          go_wp2_with fail
          go_roundw
          case rel => exact ⟨k + 1, by omega, by go_num, HF2.out 1, HS.out rfl⟩
          case measure => simp [intOf]; omega
        · refine wpAnyM_take (i := 5) (oi := ⟨some 24, _, _, _, _, _⟩) (v := .bool true) rfl (by kernel_rfl) (by kernel_rfl) (by kernel_rfl) (by kernel_rfl) (by decide) (fun _ _ _ h => h) (by assumption) (Or.inl ⟨by rfl, ?_⟩) ?_
          · intro W hSW
            clear hSW
            go_simp
            intro x1 x2 x3 x4 x5
            exact hde (dir_ext (bytes_eq x1) (bytes_eq x2) x3 x4 x5)
          go_frame
          refine wpAnyM_done (by kernel_rfl) (NoPanic.normal ?_)
          clear hHeld
          go_wp2_with fail
          go_ret
          exact ⟨_, rfl, HF2.out 1, by simp [HN.out hde]⟩
      · have hkl : k = xs.length := by omega
        subst hkl
        have HE : Hid (xs = ys) := Lib.hid (eq_of_take (by omega) hal)
        clear hal
        go_wp2_with fail
        go_ret
        exact ⟨_, rfl, hF, by simp [HE.out]⟩
  · have HNE : Hid (xs ≠ ys) := Lib.hid (by rintro rfl; exact hlen rfl)
    go_enter Tryz.func35, Tryz.ntmps35
    go_wp2_with fail
    go_ret
    exact ⟨_, rfl, Below.refl _ _, by simp [HNE.out]⟩

theorem keepCells' {b : Nat} {W W' : World} {cs : Array Value} (h1 : W'.heap[b]? = W.heap[b]?) (h2 : ∀ j, W.cell? ⟨b, j, none⟩ = cs[j]?) : ∀ j, W'.cell? ⟨b, j, none⟩ = cs[j]? := fun j => (World.cell?_of_block (w := W) h1).trans (h2 j)

theorem file_ext {f g : FileD} : (f.err = g.err ∧ f.perr = g.perr ∧ f.name = g.name ∧ f.syn = g.syn ∧ f.pkg = g.pkg ∧ f.ign = g.ign ∧ f.bin = g.bin ∧ f.cgo = g.cgo ∧ f.con = g.con ∧ f.cons = g.cons ∧ f.imps = g.imps ∧ f.embs = g.embs ∧ f.dirs = g.dirs) ↔ f = g := by
  refine ⟨fun h => ?_, fun h => by subst h; simp⟩
  obtain ⟨h0, h1, h2, h3, h4, h5, h6, h7, h8, h9, h10, h11, h12⟩ := h
  cases f
  cases g
  simp only at h0 h1 h2 h3 h4 h5 h6 h7 h8 h9 h10 h11 h12
  rw [h0, h1, h2, h3, h4, h5, h6, h7, h8, h9, h10, h11, h12]

set_option maxHeartbeats 4000000 in
set_option maxRecDepth 100000 in
theorem sameFile_any (B : Nat) (cs ds : List Value) (f g : FileD) (w : World) (hB : B ≤ w.heap.size) (hw : f.Wide) (hf : FileR w B cs f) (hg : FileR w B ds g) : Calls Tryz.prog 23 #[.agg cs.toArray, .agg ds.toArray] w (Exact (f = g) w) := by
  obtain ⟨vc, vi, ve, vd, rfl, ⟨A1, c1, rfl, x1⟩, ⟨A2, c2, rfl, x2⟩, ⟨A3, c3, rfl, x3⟩, ⟨A4, c4, rfl, x4⟩⟩ := hf
  obtain ⟨uc, ui, ue, ud, rfl, ⟨B1, e1, rfl, y1⟩, ⟨B2, e2, rfl, y2⟩, ⟨B3, e3, rfl, y3⟩, ⟨B4, e4, rfl, y4⟩⟩ := hg
  have F1 := Lib.hid (fun (W : World) (h : Below w.heap.size w W) => sameTexts_any B (.slice A1 f.cons.length c1) (.slice B1 g.cons.length e1) f.cons g.cons W hw.cons ⟨A1, c1, rfl, x1.below (h.mono hB)⟩ ⟨B1, e1, rfl, y1.below (h.mono hB)⟩)
  have F2 := Lib.hid (fun (W : World) (h : Below w.heap.size w W) => sameDirs_any B (.slice A2 f.imps.length c2) (.slice B2 g.imps.length e2) f.imps g.imps W (Nat.le_trans hB h.size) hw.imps ⟨A2, c2, rfl, x2.below (h.mono hB)⟩ ⟨B2, e2, rfl, y2.below (h.mono hB)⟩)
  have F3 := Lib.hid (fun (W : World) (h : Below w.heap.size w W) => sameDirs_any B (.slice A3 f.embs.length c3) (.slice B3 g.embs.length e3) f.embs g.embs W (Nat.le_trans hB h.size) hw.embs ⟨A3, c3, rfl, x3.below (h.mono hB)⟩ ⟨B3, e3, rfl, y3.below (h.mono hB)⟩)
  have F4 := Lib.hid (fun (W : World) (h : Below w.heap.size w W) => sameDirs_any B (.slice A4 f.dirs.length c4) (.slice B4 g.dirs.length e4) f.dirs g.dirs W (Nat.le_trans hB h.size) hw.dirs ⟨A4, c4, rfl, x4.below (h.mono hB)⟩ ⟨B4, e4, rfl, y4.below (h.mono hB)⟩)
  have hfg := @file_ext f g
  unfold fileCells
  generalize f.err = s0 at hfg ⊢
  generalize g.err = t0 at hfg ⊢
  generalize f.perr = s1 at hfg ⊢
  generalize g.perr = t1 at hfg ⊢
  generalize f.name = s2 at hfg ⊢
  generalize g.name = t2 at hfg ⊢
  generalize f.syn = s3 at hfg ⊢
  generalize g.syn = t3 at hfg ⊢
  generalize f.pkg = s4 at hfg ⊢
  generalize g.pkg = t4 at hfg ⊢
  generalize f.ign = s5 at hfg ⊢
  generalize g.ign = t5 at hfg ⊢
  generalize f.bin = s6 at hfg ⊢
  generalize g.bin = t6 at hfg ⊢
  generalize f.cgo = s7 at hfg ⊢
  generalize g.cgo = t7 at hfg ⊢
  generalize f.con = s8 at hfg ⊢
  generalize g.con = t8 at hfg ⊢
  have HFG := Lib.hid hfg
  have hb0 : Below w.heap.size w ((w.alloc (.cells #[.string s0, .string s1, .string s2, .string s3, .string s4, .bool s5, .bool s6, .string s7, .string s8, .slice A1 f.cons.length c1, .slice A2 f.imps.length c2, .slice A3 f.embs.length c3, .slice A4 f.dirs.length c4] 43)).alloc (.cells #[.string t0, .string t1, .string t2, .string t3, .string t4, .bool t5, .bool t6, .string t7, .string t8, .slice B1 g.cons.length e1, .slice B2 g.imps.length e2, .slice B3 g.embs.length e3, .slice B4 g.dirs.length e4] 43)) := ((Below.refl _ _).alloc (Nat.le_refl _) _).alloc (by simp) _
  have HK := Lib.hid ((Blk.new w 43 #[.string s0, .string s1, .string s2, .string s3, .string s4, .bool s5, .bool s6, .string s7, .string s8, .slice A1 f.cons.length c1, .slice A2 f.imps.length c2, .slice A3 f.embs.length c3, .slice A4 f.dirs.length c4]).alloc (.cells #[.string t0, .string t1, .string t2, .string t3, .string t4, .bool t5, .bool t6, .string t7, .string t8, .slice B1 g.cons.length e1, .slice B2 g.imps.length e2, .slice B3 g.embs.length e3, .slice B4 g.dirs.length e4] 43))
  have HJ0 := Blk.new (w.alloc (.cells #[.string s0, .string s1, .string s2, .string s3, .string s4, .bool s5, .bool s6, .string s7, .string s8, .slice A1 f.cons.length c1, .slice A2 f.imps.length c2, .slice A3 f.embs.length c3, .slice A4 f.dirs.length c4] 43)) 43 #[.string t0, .string t1, .string t2, .string t3, .string t4, .bool t5, .bool t6, .string t7, .string t8, .slice B1 g.cons.length e1, .slice B2 g.imps.length e2, .slice B3 g.embs.length e3, .slice B4 g.dirs.length e4]
  rw [World.size_alloc] at HJ0
  have HJ := Lib.hid HJ0
  clear x1 x2 x3 x4 y1 y2 y3 y4 hw HJ0 hfg
  by_cases hd : s0 = t0
  case' neg =>
    have hd1 := bytes_ne hd
    have hd2 : (s0.toList == t0.toList) = false := by simpa using hd1
    have HN : Hid (¬ f = g) := Lib.hid fun h => hd (HFG.out.2 h).1
    go_enter Tryz.func23, Tryz.ntmps23
    go_wp2_with fail
    go_ret
    exact ⟨_, rfl, hb0, by simp [HN.out]⟩
  subst hd
  by_cases hd : s1 = t1
  case' neg =>
    have hd1 := bytes_ne hd
    have hd2 : (s1.toList == t1.toList) = false := by simpa using hd1
    have HN : Hid (¬ f = g) := Lib.hid fun h => hd (HFG.out.2 h).2.1
    go_enter Tryz.func23, Tryz.ntmps23
    go_wp2_with fail
    go_ret
    exact ⟨_, rfl, hb0, by simp [HN.out]⟩
  subst hd
  by_cases hd : s2 = t2
  case' neg =>
    have hd1 := bytes_ne hd
    have hd2 : (s2.toList == t2.toList) = false := by simpa using hd1
    have HN : Hid (¬ f = g) := Lib.hid fun h => hd (HFG.out.2 h).2.2.1
    go_enter Tryz.func23, Tryz.ntmps23
    go_wp2_with fail
    go_ret
    exact ⟨_, rfl, hb0, by simp [HN.out]⟩
  subst hd
  by_cases hd : s3 = t3
  case' neg =>
    have hd1 := bytes_ne hd
    have hd2 : (s3.toList == t3.toList) = false := by simpa using hd1
    have HN : Hid (¬ f = g) := Lib.hid fun h => hd (HFG.out.2 h).2.2.2.1
    go_enter Tryz.func23, Tryz.ntmps23
    go_wp2_with fail
    go_ret
    exact ⟨_, rfl, hb0, by simp [HN.out]⟩
  subst hd
  by_cases hd : s4 = t4
  case' neg =>
    have hd1 := bytes_ne hd
    have hd2 : (s4.toList == t4.toList) = false := by simpa using hd1
    have HN : Hid (¬ f = g) := Lib.hid fun h => hd (HFG.out.2 h).2.2.2.2.1
    go_enter Tryz.func23, Tryz.ntmps23
    go_wp2_with fail
    go_ret
    exact ⟨_, rfl, hb0, by simp [HN.out]⟩
  subst hd
  by_cases hd : s5 = t5
  case' neg =>
    have hd2 : (s5 == t5) = false := by simpa using hd
    have HN : Hid (¬ f = g) := Lib.hid fun h => hd (HFG.out.2 h).2.2.2.2.2.1
    have hd3 : ¬ t5 = s5 := fun h => hd h.symm
    go_enter Tryz.func23, Tryz.ntmps23
    go_wp2_with fail
    go_ret
    exact ⟨_, rfl, hb0, by simp [HN.out]⟩
  subst hd
  by_cases hd : s6 = t6
  case' neg =>
    have hd2 : (s6 == t6) = false := by simpa using hd
    have HN : Hid (¬ f = g) := Lib.hid fun h => hd (HFG.out.2 h).2.2.2.2.2.2.1
    have hd3 : ¬ t6 = s6 := fun h => hd h.symm
    go_enter Tryz.func23, Tryz.ntmps23
    go_wp2_with fail
    go_ret
    exact ⟨_, rfl, hb0, by simp [HN.out]⟩
  subst hd
  by_cases hd : s7 = t7
  case' neg =>
    have hd1 := bytes_ne hd
    have hd2 : (s7.toList == t7.toList) = false := by simpa using hd1
    have HN : Hid (¬ f = g) := Lib.hid fun h => hd (HFG.out.2 h).2.2.2.2.2.2.2.1
    go_enter Tryz.func23, Tryz.ntmps23
    go_wp2_with fail
    go_ret
    exact ⟨_, rfl, hb0, by simp [HN.out]⟩
  subst hd
  by_cases hd : s8 = t8
  case' neg =>
    have hd1 := bytes_ne hd
    have hd2 : (s8.toList == t8.toList) = false := by simpa using hd1
    have HN : Hid (¬ f = g) := Lib.hid fun h => hd (HFG.out.2 h).2.2.2.2.2.2.2.2.1
    go_enter Tryz.func23, Tryz.ntmps23
    go_wp2_with fail
    go_ret
    exact ⟨_, rfl, hb0, by simp [HN.out]⟩
  subst hd
  go_enter Tryz.func23, Tryz.ntmps23
  go_wp2_with (first
    | (go_at_call 35; refine (F4.out _ hb3).mono ?_; rintro e w4 ⟨b4, rfl, hc4, hs4⟩; have hb4 := hb3.trans (hc4.mono hb3.size); have HS4 := Lib.hid hs4; clear hs4)
    | (go_at_call 35; refine (F3.out _ hb2).mono ?_; rintro e w3 ⟨b3, rfl, hc3, hs3⟩; have hb3 := hb2.trans (hc3.mono hb2.size); have hk3 := hk2.below hc3 hk2.lt; have hj3 := hj2.below hc3 hj2.lt; have q12 := hk3.cell 12; have r12 := hj3.cell 12; have HS3 := Lib.hid hs3; clear hs3)
    | (go_at_call 35; refine (F2.out _ hb1).mono ?_; rintro e w2 ⟨b2, rfl, hc2, hs2⟩; have hb2 := hb1.trans (hc2.mono hb1.size); have hk2 := hk1.below hc2 hk1.lt; have hj2 := hj1.below hc2 hj1.lt; have q11 := hk2.cell 11; have r11 := hj2.cell 11; have HS2 := Lib.hid hs2; clear hs2)
    | (go_at_call 34; refine (F1.out _ hb0).mono ?_; rintro e w1 ⟨b1, rfl, hc1, hs1⟩; have hb1 := hb0.trans (hc1.mono hb0.size); have hk1 := HK.out.below hc1 HK.out.lt; have hj1 := HJ.out.below hc1 HJ.out.lt; have q10 := hk1.cell 10; have r10 := hj1.cell 10; have HS1 := Lib.hid hs1; clear hs1))
  · have g1 : b1 = true := by assumption
    have g2 : b2 = true := by assumption
    have g3 : b3 = true := by assumption
    have HG1 := Lib.hid (HS1.out.1 g1)
    have HG2 := Lib.hid (HS2.out.1 g2)
    have HG3 := Lib.hid (HS3.out.1 g3)
    go_ret
    refine ⟨_, rfl, hb4, ?_⟩
    rw [HS4.out, ← HFG.out]
    simp [HG1.out, HG2.out, HG3.out]
  · have g3 : ¬ b3 = true := by assumption
    have HN : Hid (¬ f = g) := Lib.hid fun h => g3 (HS3.out.2 (HFG.out.2 h).2.2.2.2.2.2.2.2.2.2.2.1)
    go_ret
    exact ⟨_, rfl, hb3, by simp [HN.out]⟩
  · have g3 : ¬ b2 = true := by assumption
    have HN : Hid (¬ f = g) := Lib.hid fun h => g3 (HS2.out.2 (HFG.out.2 h).2.2.2.2.2.2.2.2.2.2.1)
    go_ret
    exact ⟨_, rfl, hb2, by simp [HN.out]⟩
  · have g3 : ¬ b1 = true := by assumption
    have HN : Hid (¬ f = g) := Lib.hid fun h => g3 (HS1.out.2 (HFG.out.2 h).2.2.2.2.2.2.2.2.2.1)
    go_ret
    exact ⟨_, rfl, hb1, by simp [HN.out]⟩

theorem pkg_ext {p q : PkgD} : (p.err = q.err ∧ p.dir = q.dir ∧ p.files = q.files) ↔ p = q := by
  refine ⟨fun h => ?_, fun h => by subst h; simp⟩
  obtain ⟨h0, h1, h2⟩ := h
  cases p
  cases q
  simp only at h0 h1 h2
  rw [h0, h1, h2]

set_option maxHeartbeats 4000000 in
set_option maxRecDepth 100000 in
theorem samePkg_any (B : Nat) (cs ds : List Value) (p q : PkgD) (w : World) (hB : B ≤ w.heap.size) (hw : p.Wide) (hp : PkgR w B cs p) (hq : PkgR w B ds q) : Calls Tryz.prog 15 #[.agg cs.toArray, .agg ds.toArray] w (Exact (p = q) w) := by
  obtain ⟨vf, rfl, hfs⟩ := hp
  obtain ⟨uf, rfl, hgs⟩ := hq
  obtain ⟨A, c, rfl⟩ := hfs.form
  obtain ⟨A', c', rfl⟩ := hgs.form
  have hpq := @pkg_ext p q
  have HWF := hw.files
  have HFS := Lib.hid hfs
  have HGS := Lib.hid hgs
  have HWE := Lib.hid hw.each
  generalize p.err = s0 at hpq ⊢
  generalize q.err = t0 at hpq ⊢
  generalize p.dir = s1 at hpq ⊢
  generalize q.dir = t1 at hpq ⊢
  have HPQ := Lib.hid hpq
  have hb0 : Below w.heap.size w ((w.alloc (.cells #[.string s0, .string s1, .slice A p.files.length c] 32)).alloc (.cells #[.string t0, .string t1, .slice A' q.files.length c'] 32)) := ((Below.refl _ _).alloc (Nat.le_refl _) _).alloc (by simp) _
  have HJ0 := Blk.new (w.alloc (.cells #[.string s0, .string s1, .slice A p.files.length c] 32)) 32 #[.string t0, .string t1, .slice A' q.files.length c']
  rw [World.size_alloc] at HJ0
  have HJ := Lib.hid HJ0
  clear hpq hw hfs hgs HJ0
  by_cases hd : s0 = t0
  case' neg =>
    have hd1 := bytes_ne hd
    have hd2 : (s0.toList == t0.toList) = false := by simpa using hd1
    have HN : Hid (¬ p = q) := Lib.hid fun h => hd (HPQ.out.2 h).1
    go_enter Tryz.func15, Tryz.ntmps15
    go_wp2_with fail
    go_ret
    exact ⟨_, rfl, hb0, by simp [HN.out]⟩
  subst hd
  by_cases hd : s1 = t1
  case' neg =>
    have hd1 := bytes_ne hd
    have hd2 : (s1.toList == t1.toList) = false := by simpa using hd1
    have HN : Hid (¬ p = q) := Lib.hid fun h => hd (HPQ.out.2 h).2.1
    go_enter Tryz.func15, Tryz.ntmps15
    go_wp2_with fail
    go_ret
    exact ⟨_, rfl, hb0, by simp [HN.out]⟩
  subst hd
  by_cases hlen : (p.files.length : Int) = (q.files.length : Int)
  case' neg =>
    have HN : Hid (¬ p = q) := Lib.hid fun h => hlen (by rw [h])
    go_enter Tryz.func15, Tryz.ntmps15
    go_wp2_with fail
    go_ret
    exact ⟨_, rfl, hb0, by simp [HN.out]⟩
  have hle : q.files.length ≤ p.files.length := by omega
  have hge : p.files.length ≤ q.files.length := by omega
  go_enter Tryz.func15, Tryz.ntmps15
  go_wp2_with fail
  go_loopw [5, 6, 31] (fun _ _ i wr => ∃ k : Nat, k ≤ p.files.length ∧ i = .int .i64 k ∧ Below w.heap.size w wr ∧ Blk wr (w.heap.size + 1) 32 #[.string s0, .string s1, .slice A' q.files.length c'] ∧ Alike_ p.files q.files k) (fun _ _ i _ => p.files.length - (intOf i).toNat)
  case atStart => exact ⟨0, Nat.zero_le _, rfl, hb0, HJ.out, fun j _ _ h => by omega⟩
  case round =>
    obtain ⟨k, hk, rfl, hF, hJ, hal⟩ := hrel
    obtain ⟨wo, rfl⟩ : ∃ wo : World, wo = wr := ⟨_, rfl⟩
    have hsz := hF.size
    by_cases hlt : k < p.files.length
    · have hlt2 : k < q.files.length := by omega
      obtain ⟨ag, ao, ca, rfl, hab, hl1, hRa, hca⟩ := (ListAt.files_below HFS.out (hF.mono hB)).get (by omega) k hlt
      obtain ⟨bg, bo, cb, rfl, hbb, hl2, hRb, hcb⟩ := (ListAt.files_below HGS.out (hF.mono hB)).get (by omega) k hlt2
      have HS := Lib.hid (alike_succ hal hlt hlt2)
      have HN : Hid (p.files[k] ≠ q.files[k] → p.files ≠ q.files) := Lib.hid (alike_ne hlt hlt2)
      have hwf := HWE.out _ (List.getElem_mem hlt)
      have i1 : (0 : Int) ≤ (k : Int) := by omega
      have i2 : (k : Int) < (q.files.length : Int) := by omega
      have hbgl : bg < wo.heap.size := Nat.lt_of_lt_of_le hbb (Nat.le_trans hB hsz)
      have hBo := Nat.le_trans hB hsz
      generalize p.files[k] = f at hRa HS HN hwf
      generalize q.files[k] = g at hRb HS HN
      have HC := Lib.hid (fun W (h : Below wo.heap.size wo W) => sameFile_any B ca cb f g W (Nat.le_trans hBo h.size) hwf (hRa.below (h.mono hBo)) (hRb.below (h.mono hBo)))
      obtain ⟨vc, vi, ve, vd, rfl, ⟨A1, c1, rfl, _⟩, ⟨A2, c2, rfl, _⟩, ⟨A3, c3, rfl, _⟩, ⟨A4, c4, rfl, _⟩⟩ := hRa
      obtain ⟨uc, ui, ue, ud, rfl, ⟨B1, e1, rfl, _⟩, ⟨B2, e2, rfl, _⟩, ⟨B3, e3, rfl, _⟩, ⟨B4, e4, rfl, _⟩⟩ := hRb
      have d0 : wo.cell? ⟨ag, ao + k * 13, none⟩ = some (.string f.err) := hca 0 _ rfl
      have x0 : wo.cell? ⟨bg, bo + k * 13, none⟩ = some (.string g.err) := hcb 0 _ rfl
      have d1 : wo.cell? ⟨ag, ao + k * 13 + 1, none⟩ = some (.string f.perr) := hca 1 _ rfl
      have x1 : wo.cell? ⟨bg, bo + k * 13 + 1, none⟩ = some (.string g.perr) := hcb 1 _ rfl
      have d2 : wo.cell? ⟨ag, ao + k * 13 + 2, none⟩ = some (.string f.name) := hca 2 _ rfl
      have x2 : wo.cell? ⟨bg, bo + k * 13 + 2, none⟩ = some (.string g.name) := hcb 2 _ rfl
      have d3 : wo.cell? ⟨ag, ao + k * 13 + 3, none⟩ = some (.string f.syn) := hca 3 _ rfl
      have x3 : wo.cell? ⟨bg, bo + k * 13 + 3, none⟩ = some (.string g.syn) := hcb 3 _ rfl
      have d4 : wo.cell? ⟨ag, ao + k * 13 + 4, none⟩ = some (.string f.pkg) := hca 4 _ rfl
      have x4 : wo.cell? ⟨bg, bo + k * 13 + 4, none⟩ = some (.string g.pkg) := hcb 4 _ rfl
      have d5 : wo.cell? ⟨ag, ao + k * 13 + 5, none⟩ = some (.bool f.ign) := hca 5 _ rfl
      have x5 : wo.cell? ⟨bg, bo + k * 13 + 5, none⟩ = some (.bool g.ign) := hcb 5 _ rfl
      have d6 : wo.cell? ⟨ag, ao + k * 13 + 6, none⟩ = some (.bool f.bin) := hca 6 _ rfl
      have x6 : wo.cell? ⟨bg, bo + k * 13 + 6, none⟩ = some (.bool g.bin) := hcb 6 _ rfl
      have d7 : wo.cell? ⟨ag, ao + k * 13 + 7, none⟩ = some (.string f.cgo) := hca 7 _ rfl
      have x7 : wo.cell? ⟨bg, bo + k * 13 + 7, none⟩ = some (.string g.cgo) := hcb 7 _ rfl
      have d8 : wo.cell? ⟨ag, ao + k * 13 + 8, none⟩ = some (.string f.con) := hca 8 _ rfl
      have x8 : wo.cell? ⟨bg, bo + k * 13 + 8, none⟩ = some (.string g.con) := hcb 8 _ rfl
      have d9 : wo.cell? ⟨ag, ao + k * 13 + 9, none⟩ = some (.slice A1 f.cons.length c1) := hca 9 _ rfl
      have x9 : wo.cell? ⟨bg, bo + k * 13 + 9, none⟩ = some (.slice B1 g.cons.length e1) := hcb 9 _ rfl
      have d10 : wo.cell? ⟨ag, ao + k * 13 + 10, none⟩ = some (.slice A2 f.imps.length c2) := hca 10 _ rfl
      have x10 : wo.cell? ⟨bg, bo + k * 13 + 10, none⟩ = some (.slice B2 g.imps.length e2) := hcb 10 _ rfl
      have d11 : wo.cell? ⟨ag, ao + k * 13 + 11, none⟩ = some (.slice A3 f.embs.length c3) := hca 11 _ rfl
      have x11 : wo.cell? ⟨bg, bo + k * 13 + 11, none⟩ = some (.slice B3 g.embs.length e3) := hcb 11 _ rfl
      have d12 : wo.cell? ⟨ag, ao + k * 13 + 12, none⟩ = some (.slice A4 f.dirs.length c4) := hca 12 _ rfl
      have x12 : wo.cell? ⟨bg, bo + k * 13 + 12, none⟩ = some (.slice B4 g.dirs.length e4) := hcb 12 _ rfl
      have HH : Hid ((∀ j, (wo.alloc (.cells #[.string f.err, .string f.perr, .string f.name, .string f.syn, .string f.pkg, .bool f.ign, .bool f.bin, .string f.cgo, .string f.con, .slice A1 f.cons.length c1, .slice A2 f.imps.length c2, .slice A3 f.embs.length c3, .slice A4 f.dirs.length c4] 43)).drew.cell? ⟨wo.heap.size, j, none⟩ = (#[.string f.err, .string f.perr, .string f.name, .string f.syn, .string f.pkg, .bool f.ign, .bool f.bin, .string f.cgo, .string f.con, .slice A1 f.cons.length c1, .slice A2 f.imps.length c2, .slice A3 f.embs.length c3, .slice A4 f.dirs.length c4] : Array Value)[j]?) ∧ (wo.alloc (.cells #[.string f.err, .string f.perr, .string f.name, .string f.syn, .string f.pkg, .bool f.ign, .bool f.bin, .string f.cgo, .string f.con, .slice A1 f.cons.length c1, .slice A2 f.imps.length c2, .slice A3 f.embs.length c3, .slice A4 f.dirs.length c4] 43)).drew.cell? ⟨w.heap.size + 1, 2, none⟩ = some (.slice (some ⟨bg, bo, none⟩) q.files.length c') ∧ (wo.alloc (.cells #[.string f.err, .string f.perr, .string f.name, .string f.syn, .string f.pkg, .bool f.ign, .bool f.bin, .string f.cgo, .string f.con, .slice A1 f.cons.length c1, .slice A2 f.imps.length c2, .slice A3 f.embs.length c3, .slice A4 f.dirs.length c4] 43)).drew.cell? ⟨bg, bo + k * 13, none⟩ = some (.string g.err) ∧ (wo.alloc (.cells #[.string f.err, .string f.perr, .string f.name, .string f.syn, .string f.pkg, .bool f.ign, .bool f.bin, .string f.cgo, .string f.con, .slice A1 f.cons.length c1, .slice A2 f.imps.length c2, .slice A3 f.embs.length c3, .slice A4 f.dirs.length c4] 43)).drew.cell? ⟨bg, bo + k * 13 + 1, none⟩ = some (.string g.perr) ∧ (wo.alloc (.cells #[.string f.err, .string f.perr, .string f.name, .string f.syn, .string f.pkg, .bool f.ign, .bool f.bin, .string f.cgo, .string f.con, .slice A1 f.cons.length c1, .slice A2 f.imps.length c2, .slice A3 f.embs.length c3, .slice A4 f.dirs.length c4] 43)).drew.cell? ⟨bg, bo + k * 13 + 2, none⟩ = some (.string g.name) ∧ (wo.alloc (.cells #[.string f.err, .string f.perr, .string f.name, .string f.syn, .string f.pkg, .bool f.ign, .bool f.bin, .string f.cgo, .string f.con, .slice A1 f.cons.length c1, .slice A2 f.imps.length c2, .slice A3 f.embs.length c3, .slice A4 f.dirs.length c4] 43)).drew.cell? ⟨bg, bo + k * 13 + 3, none⟩ = some (.string g.syn) ∧ (wo.alloc (.cells #[.string f.err, .string f.perr, .string f.name, .string f.syn, .string f.pkg, .bool f.ign, .bool f.bin, .string f.cgo, .string f.con, .slice A1 f.cons.length c1, .slice A2 f.imps.length c2, .slice A3 f.embs.length c3, .slice A4 f.dirs.length c4] 43)).drew.cell? ⟨bg, bo + k * 13 + 4, none⟩ = some (.string g.pkg) ∧ (wo.alloc (.cells #[.string f.err, .string f.perr, .string f.name, .string f.syn, .string f.pkg, .bool f.ign, .bool f.bin, .string f.cgo, .string f.con, .slice A1 f.cons.length c1, .slice A2 f.imps.length c2, .slice A3 f.embs.length c3, .slice A4 f.dirs.length c4] 43)).drew.cell? ⟨bg, bo + k * 13 + 5, none⟩ = some (.bool g.ign) ∧ (wo.alloc (.cells #[.string f.err, .string f.perr, .string f.name, .string f.syn, .string f.pkg, .bool f.ign, .bool f.bin, .string f.cgo, .string f.con, .slice A1 f.cons.length c1, .slice A2 f.imps.length c2, .slice A3 f.embs.length c3, .slice A4 f.dirs.length c4] 43)).drew.cell? ⟨bg, bo + k * 13 + 6, none⟩ = some (.bool g.bin) ∧ (wo.alloc (.cells #[.string f.err, .string f.perr, .string f.name, .string f.syn, .string f.pkg, .bool f.ign, .bool f.bin, .string f.cgo, .string f.con, .slice A1 f.cons.length c1, .slice A2 f.imps.length c2, .slice A3 f.embs.length c3, .slice A4 f.dirs.length c4] 43)).drew.cell? ⟨bg, bo + k * 13 + 7, none⟩ = some (.string g.cgo) ∧ (wo.alloc (.cells #[.string f.err, .string f.perr, .string f.name, .string f.syn, .string f.pkg, .bool f.ign, .bool f.bin, .string f.cgo, .string f.con, .slice A1 f.cons.length c1, .slice A2 f.imps.length c2, .slice A3 f.embs.length c3, .slice A4 f.dirs.length c4] 43)).drew.cell? ⟨bg, bo + k * 13 + 8, none⟩ = some (.string g.con) ∧ (wo.alloc (.cells #[.string f.err, .string f.perr, .string f.name, .string f.syn, .string f.pkg, .bool f.ign, .bool f.bin, .string f.cgo, .string f.con, .slice A1 f.cons.length c1, .slice A2 f.imps.length c2, .slice A3 f.embs.length c3, .slice A4 f.dirs.length c4] 43)).drew.cell? ⟨bg, bo + k * 13 + 9, none⟩ = some (.slice B1 g.cons.length e1) ∧ (wo.alloc (.cells #[.string f.err, .string f.perr, .string f.name, .string f.syn, .string f.pkg, .bool f.ign, .bool f.bin, .string f.cgo, .string f.con, .slice A1 f.cons.length c1, .slice A2 f.imps.length c2, .slice A3 f.embs.length c3, .slice A4 f.dirs.length c4] 43)).drew.cell? ⟨bg, bo + k * 13 + 10, none⟩ = some (.slice B2 g.imps.length e2) ∧ (wo.alloc (.cells #[.string f.err, .string f.perr, .string f.name, .string f.syn, .string f.pkg, .bool f.ign, .bool f.bin, .string f.cgo, .string f.con, .slice A1 f.cons.length c1, .slice A2 f.imps.length c2, .slice A3 f.embs.length c3, .slice A4 f.dirs.length c4] 43)).drew.cell? ⟨bg, bo + k * 13 + 11, none⟩ = some (.slice B3 g.embs.length e3) ∧ (wo.alloc (.cells #[.string f.err, .string f.perr, .string f.name, .string f.syn, .string f.pkg, .bool f.ign, .bool f.bin, .string f.cgo, .string f.con, .slice A1 f.cons.length c1, .slice A2 f.imps.length c2, .slice A3 f.embs.length c3, .slice A4 f.dirs.length c4] 43)).drew.cell? ⟨bg, bo + k * 13 + 12, none⟩ = some (.slice B4 g.dirs.length e4)) := Lib.hid ⟨(Blk.new wo 43 #[.string f.err, .string f.perr, .string f.name, .string f.syn, .string f.pkg, .bool f.ign, .bool f.bin, .string f.cgo, .string f.con, .slice A1 f.cons.length c1, .slice A2 f.imps.length c2, .slice A3 f.embs.length c3, .slice A4 f.dirs.length c4]).cell, (World.cell?_alloc_lt wo _ _ hJ.lt).trans (hJ.cell 2), (World.cell?_alloc_lt wo _ _ hbgl).trans x0, (World.cell?_alloc_lt wo _ _ hbgl).trans x1, (World.cell?_alloc_lt wo _ _ hbgl).trans x2, (World.cell?_alloc_lt wo _ _ hbgl).trans x3, (World.cell?_alloc_lt wo _ _ hbgl).trans x4, (World.cell?_alloc_lt wo _ _ hbgl).trans x5, (World.cell?_alloc_lt wo _ _ hbgl).trans x6, (World.cell?_alloc_lt wo _ _ hbgl).trans x7, (World.cell?_alloc_lt wo _ _ hbgl).trans x8, (World.cell?_alloc_lt wo _ _ hbgl).trans x9, (World.cell?_alloc_lt wo _ _ hbgl).trans x10, (World.cell?_alloc_lt wo _ _ hbgl).trans x11, (World.cell?_alloc_lt wo _ _ hbgl).trans x12⟩
      have HJ2 := Lib.hid hJ
      clear hal hwf hl1 hl2 hca hcb hJ
      go_wp2_with fail
      refine wp_region_m 99 (fun W => (∀ j, W.cell? ⟨wo.heap.size, j, none⟩ = (#[.string f.err, .string f.perr, .string f.name, .string f.syn, .string f.pkg, .bool f.ign, .bool f.bin, .string f.cgo, .string f.con, .slice A1 f.cons.length c1, .slice A2 f.imps.length c2, .slice A3 f.embs.length c3, .slice A4 f.dirs.length c4] : Array Value)[j]?) ∧ W.cell? ⟨w.heap.size + 1, 2, none⟩ = some (.slice (some ⟨bg, bo, none⟩) q.files.length c') ∧ W.cell? ⟨bg, bo + k * 13, none⟩ = some (.string g.err) ∧ W.cell? ⟨bg, bo + k * 13 + 1, none⟩ = some (.string g.perr) ∧ W.cell? ⟨bg, bo + k * 13 + 2, none⟩ = some (.string g.name) ∧ W.cell? ⟨bg, bo + k * 13 + 3, none⟩ = some (.string g.syn) ∧ W.cell? ⟨bg, bo + k * 13 + 4, none⟩ = some (.string g.pkg) ∧ W.cell? ⟨bg, bo + k * 13 + 5, none⟩ = some (.bool g.ign) ∧ W.cell? ⟨bg, bo + k * 13 + 6, none⟩ = some (.bool g.bin) ∧ W.cell? ⟨bg, bo + k * 13 + 7, none⟩ = some (.string g.cgo) ∧ W.cell? ⟨bg, bo + k * 13 + 8, none⟩ = some (.string g.con) ∧ W.cell? ⟨bg, bo + k * 13 + 9, none⟩ = some (.slice B1 g.cons.length e1) ∧ W.cell? ⟨bg, bo + k * 13 + 10, none⟩ = some (.slice B2 g.imps.length e2) ∧ W.cell? ⟨bg, bo + k * 13 + 11, none⟩ = some (.slice B3 g.embs.length e3) ∧ W.cell? ⟨bg, bo + k * 13 + 12, none⟩ = some (.slice B4 g.dirs.length e4)) (by kernel_rfl) ?_
      have hHeld := HH.out
      refine wpAnyM_take (i := 0) (oi := ⟨some 36, _, _, _, _, _⟩) (v := (.agg #[.string f.err, .string f.perr, .string f.name, .string f.syn, .string f.pkg, .bool f.ign, .bool f.bin, .string f.cgo, .string f.con, .slice A1 f.cons.length c1, .slice A2 f.imps.length c2, .slice A3 f.embs.length c3, .slice A4 f.dirs.length c4])) rfl (by kernel_rfl) (by kernel_rfl) (by kernel_rfl) (by kernel_rfl) (by decide) (fun _ _ _ h => h) (by assumption) (Or.inl ⟨by rfl, ?_⟩) ?_
      · intro W hSW
        (try dsimp only at hSW)
        go_simp
      (try go_frame)
      refine wpAnyM_take (i := 1) (oi := ⟨some 37, _, _, _, _, _⟩) (v := (.pointer (some ⟨w.heap.size + 1, 2, none⟩))) rfl (by kernel_rfl) (by kernel_rfl) (by kernel_rfl) (by kernel_rfl) (by decide) (fun _ _ _ h => h) (by assumption) (Or.inl ⟨by rfl, ?_⟩) ?_
      · intro W hSW
        (try dsimp only at hSW)
        go_simp
      (try go_frame)
      refine wpAnyM_take (i := 2) (oi := ⟨some 38, _, _, _, _, _⟩) (v := (.slice (some ⟨bg, bo, none⟩) q.files.length c')) rfl (by kernel_rfl) (by kernel_rfl) (by kernel_rfl) (by kernel_rfl) (by decide) (fun _ _ _ h => h) (by assumption) (Or.inl ⟨by rfl, ?_⟩) ?_
      · intro W hSW
        (try dsimp only at hSW)
        go_simp
      (try go_frame)
      refine wpAnyM_take (i := 3) (oi := ⟨some 39, _, _, _, _, _⟩) (v := (.int .i64 k)) rfl (by kernel_rfl) (by kernel_rfl) (by kernel_rfl) (by kernel_rfl) (by decide) (fun _ _ _ h => h) (by assumption) (Or.inl ⟨by rfl, ?_⟩) ?_
      · intro W hSW
        (try dsimp only at hSW)
        go_simp
      (try go_frame)
      refine wpAnyM_take (i := 4) (oi := ⟨some 40, _, _, _, _, _⟩) (v := (.pointer (some ⟨bg, bo + k * 13, none⟩))) rfl (by kernel_rfl) (by kernel_rfl) (by kernel_rfl) (by kernel_rfl) (by decide) (fun _ _ _ h => h) (by assumption) (Or.inl ⟨by rfl, ?_⟩) ?_
      · intro W hSW
        (try dsimp only at hSW)
        go_simp
      (try go_frame)
      refine wpAnyM_take (i := 5) (oi := ⟨some 41, _, _, _, _, _⟩) (v := (.agg #[.string g.err, .string g.perr, .string g.name, .string g.syn, .string g.pkg, .bool g.ign, .bool g.bin, .string g.cgo, .string g.con, .slice B1 g.cons.length e1, .slice B2 g.imps.length e2, .slice B3 g.embs.length e3, .slice B4 g.dirs.length e4])) rfl (by kernel_rfl) (by kernel_rfl) (by kernel_rfl) (by kernel_rfl) (by decide) (fun _ _ _ h => h) (by assumption) (Or.inl ⟨by rfl, ?_⟩) ?_
      · intro W hSW
        (try dsimp only at hSW)
        go_simp
      (try go_frame)
      refine wpAnyM_only (i := 6) (oi := ⟨some 42, _, _, _, _, _⟩) rfl (by kernel_rfl) (fun K hK => ?_)
      go_simp
      refine (HC.out _ (((Below.refl _ _).alloc (Nat.le_refl _) _).drew)).mono ?_
      rintro e w1 ⟨b, rfl, hb1, hs1⟩
      have hb2 : Below (wo.heap.size + 1) ((wo.alloc (.cells #[.string f.err, .string f.perr, .string f.name, .string f.syn, .string f.pkg, .bool f.ign, .bool f.bin, .string f.cgo, .string f.con, .slice A1 f.cons.length c1, .slice A2 f.imps.length c2, .slice A3 f.embs.length c3, .slice A4 f.dirs.length c4] 43)).drew) w1 := by
        have e : ((wo.alloc (.cells #[.string f.err, .string f.perr, .string f.name, .string f.syn, .string f.pkg, .bool f.ign, .bool f.bin, .string f.cgo, .string f.con, .slice A1 f.cons.length c1, .slice A2 f.imps.length c2, .slice A3 f.embs.length c3, .slice A4 f.dirs.length c4] 43)).drew).heap.size = wo.heap.size + 1 := by simp
        rw [e] at hb1
        exact hb1
      have hb3 : Below wo.heap.size wo w1 := (((Below.refl _ _).alloc (Nat.le_refl _) _).drew).trans (hb2.mono (by omega))
      have hF2 := hF.trans (hb3.mono hsz)
      have HJ3 := Lib.hid (HJ2.out.below hb3 HJ2.out.lt)
      have HS1 := Lib.hid hs1
      have hHeld2 : (∀ j, w1.cell? ⟨wo.heap.size, j, none⟩ = (#[.string f.err, .string f.perr, .string f.name, .string f.syn, .string f.pkg, .bool f.ign, .bool f.bin, .string f.cgo, .string f.con, .slice A1 f.cons.length c1, .slice A2 f.imps.length c2, .slice A3 f.embs.length c3, .slice A4 f.dirs.length c4] : Array Value)[j]?) ∧ w1.cell? ⟨w.heap.size + 1, 2, none⟩ = some (.slice (some ⟨bg, bo, none⟩) q.files.length c') ∧ w1.cell? ⟨bg, bo + k * 13, none⟩ = some (.string g.err) ∧ w1.cell? ⟨bg, bo + k * 13 + 1, none⟩ = some (.string g.perr) ∧ w1.cell? ⟨bg, bo + k * 13 + 2, none⟩ = some (.string g.name) ∧ w1.cell? ⟨bg, bo + k * 13 + 3, none⟩ = some (.string g.syn) ∧ w1.cell? ⟨bg, bo + k * 13 + 4, none⟩ = some (.string g.pkg) ∧ w1.cell? ⟨bg, bo + k * 13 + 5, none⟩ = some (.bool g.ign) ∧ w1.cell? ⟨bg, bo + k * 13 + 6, none⟩ = some (.bool g.bin) ∧ w1.cell? ⟨bg, bo + k * 13 + 7, none⟩ = some (.string g.cgo) ∧ w1.cell? ⟨bg, bo + k * 13 + 8, none⟩ = some (.string g.con) ∧ w1.cell? ⟨bg, bo + k * 13 + 9, none⟩ = some (.slice B1 g.cons.length e1) ∧ w1.cell? ⟨bg, bo + k * 13 + 10, none⟩ = some (.slice B2 g.imps.length e2) ∧ w1.cell? ⟨bg, bo + k * 13 + 11, none⟩ = some (.slice B3 g.embs.length e3) ∧ w1.cell? ⟨bg, bo + k * 13 + 12, none⟩ = some (.slice B4 g.dirs.length e4) := ⟨keepCells' (hb2.block _ (by omega)) hHeld.1, (hb3.cell (p := ⟨w.heap.size + 1, 2, none⟩) HJ2.out.lt).trans (HJ2.out.cell 2), (hb3.cell (p := ⟨bg, bo + k * 13, none⟩) hbgl).trans x0, (hb3.cell (p := ⟨bg, bo + k * 13 + 1, none⟩) hbgl).trans x1, (hb3.cell (p := ⟨bg, bo + k * 13 + 2, none⟩) hbgl).trans x2, (hb3.cell (p := ⟨bg, bo + k * 13 + 3, none⟩) hbgl).trans x3, (hb3.cell (p := ⟨bg, bo + k * 13 + 4, none⟩) hbgl).trans x4, (hb3.cell (p := ⟨bg, bo + k * 13 + 5, none⟩) hbgl).trans x5, (hb3.cell (p := ⟨bg, bo + k * 13 + 6, none⟩) hbgl).trans x6, (hb3.cell (p := ⟨bg, bo + k * 13 + 7, none⟩) hbgl).trans x7, (hb3.cell (p := ⟨bg, bo + k * 13 + 8, none⟩) hbgl).trans x8, (hb3.cell (p := ⟨bg, bo + k * 13 + 9, none⟩) hbgl).trans x9, (hb3.cell (p := ⟨bg, bo + k * 13 + 10, none⟩) hbgl).trans x10, (hb3.cell (p := ⟨bg, bo + k * 13 + 11, none⟩) hbgl).trans x11, (hb3.cell (p := ⟨bg, bo + k * 13 + 12, none⟩) hbgl).trans x12⟩
      clear hs1 hb1 d0 x0 d1 x1 d2 x2 d3 x3 d4 x4 d5 x5 d6 x6 d7 x7 d8 x8 d9 x9 d10 x10 d11 x11 d12 x12
      go_wp2_with fail
      refine hK.out _ _ (.inr hHeld2) ?_
      clear hK K
      (try go_frame)
      clear hHeld
      cases b
      · skip
        refine wpAnyM_take (i := 7) (oi := ⟨some 43, _, _, _, _, _⟩) (v := (.bool true)) rfl (by kernel_rfl) (by kernel_rfl) (by kernel_rfl) (by kernel_rfl) (by decide) (fun _ _ _ h => h) (by assumption) (Or.inl ⟨by rfl, ?_⟩) ?_
        · intro W hSW
          (try dsimp only at hSW)
          go_simp
        (try go_frame)
        refine wpAnyM_done (by kernel_rfl) (NoPanic.normal ?_)
        clear hHeld2 hb2 hb3
        have HNE : Hid (¬ p = q) := Lib.hid fun h => HN.out (fun e => by have := HS1.out.2 e; cases this) (by rw [h])
        go_wp2_with fail
        go_ret
        exact ⟨_, rfl, hF2, by simp [HNE.out]⟩
      · skip
        refine wpAnyM_take (i := 7) (oi := ⟨some 43, _, _, _, _, _⟩) (v := (.bool false)) rfl (by kernel_rfl) (by kernel_rfl) (by kernel_rfl) (by kernel_rfl) (by decide) (fun _ _ _ h => h) (by assumption) (Or.inl ⟨by rfl, ?_⟩) ?_
        · intro W hSW
          (try dsimp only at hSW)
          go_simp
        (try go_frame)
        refine wpAnyM_done (by kernel_rfl) (NoPanic.normal ?_)
        clear hHeld2 hb2 hb3
        have HEQ := Lib.hid (HS.out (HS1.out.1 rfl))
        go_wp2_with fail
        go_roundw
        case rel => exact ⟨k + 1, by omega, by go_num, hF2, HJ3.out, HEQ.out⟩
        case measure => simp [intOf]; omega
    · have hkl : k = p.files.length := by omega
      subst hkl
      have HE : Hid (p = q) := Lib.hid (HPQ.out.1 ⟨by simp, by simp, eq_of_take (by omega) hal⟩)
      clear hal
      go_wp2_with fail
      go_ret
      exact ⟨_, rfl, hF, by simp [HE.out]⟩
end Go.Proofs.YtanfimeajalffaaGreatDoor
