/-
  One package of an index, looked up: Module.pkg. Condition: what stands in the index (IntIs, PkgIs).
-/
import Derived.Test.YtanfimeajalffaaGreatDoorMod
import Derived.Test.YtanfimeajalffaaGreatDoorGD
namespace Go.Proofs.YtanfimeajalffaaGreatDoor
open Go.RowKit
attribute [local go_sem ↓] Go.wp_at_zero Go.wp_at_succ

theorem Blk.grownT {w w' : World} {g : Nat} {t : TypeId} {cs : Array Value} {row : Option Nat} (h : Blk w g t cs) (hg : w.grownBy w' row) (hr : ∀ h, row = some h → ∃ t' cs', Blk w h t' cs' ∧ t' ≠ t) : Blk w' g t cs :=
  h.grown hg fun e => by
    obtain ⟨t', cs', h1, h2⟩ := hr g e.symm
    exact Blk.ne_ h1 h h2 rfl

/-- An error that tells s; none where s is empty. -/
def ErrIs (w : World) (v : Value) (s : ByteArray) : Prop :=
  (s = ByteArray.empty ∧ v = .nilIface) ∨ (s ≠ ByteArray.empty ∧ ∃ g, v = .iface 144 (.pointer (some ⟨g, 0, none⟩)) ∧ Blk w g 146 #[.string s])
theorem ErrIs.grownT {w w' : World} {v : Value} {s : ByteArray} {row : Option Nat} (h : ErrIs w v s) (hg : w.grownBy w' row) (hr : ∀ h, row = some h → ∃ t' cs', Blk w h t' cs' ∧ t' ≠ 146) : ErrIs w' v s := by
  rcases h with h | ⟨h0, g, hv, h1⟩
  · exact .inl h
  · exact .inr ⟨h0, g, hv, h1.grownT hg hr⟩
theorem ErrIs.below {w w' : World} {v : Value} {s : ByteArray} (h : ErrIs w v s) (hb : Below w.heap.size w w') : ErrIs w' v s := by
  rcases h with h | ⟨h0, g, hv, h1⟩
  · exact .inl h
  · exact .inr ⟨h0, g, hv, h1.below hb h1.lt⟩

/-- .. wherever its text lies. -/
def ErrTold (w : World) (v : Value) (s : ByteArray) : Prop :=
  (s = ByteArray.empty ∧ v = .nilIface) ∨ (s ≠ ByteArray.empty ∧ ∃ g o, v = .iface 144 (.pointer (some ⟨g, o, none⟩)) ∧ w.cell? ⟨g, o, none⟩ = some (.string s))
theorem ErrIs.told {w : World} {v : Value} {s : ByteArray} (h : ErrIs w v s) : ErrTold w v s := by
  rcases h with h | ⟨h0, g, hv, h1⟩
  · exact .inl h
  · exact .inr ⟨h0, g, 0, hv, h1.cell 0⟩
theorem ErrTold.below {w w' : World} {v : Value} {s : ByteArray} (h : ErrTold w v s) (hb : Below w.heap.size w w') : ErrTold w' v s := by
  rcases h with h | ⟨h0, g, o, hv, h1⟩
  · exact .inl h
  · exact .inr ⟨h0, g, o, hv, (hb.cell (p := ⟨g, o, none⟩) (cell_lt h1)).trans h1⟩

/-- Source files in memory, each at its place in the index. -/
def SfRow (w : World) (gd : Nat) (b t : List UInt8) (us : List Value) (fs : List FileD) : Prop :=
  ∀ (k : Nat) (u : Value) (f : FileD), us[k]? = some u → fs[k]? = some f → ∃ gs pos, u = .pointer (some ⟨gs, 0, none⟩) ∧ SfAt w gs gd pos ∧ FileIs b t pos f
theorem SfRow.grownT {w w' : World} {gd : Nat} {b t : List UInt8} {us : List Value} {fs : List FileD} {row : Option Nat} (h : SfRow w gd b t us fs) (hg : w.grownBy w' row) (hr : ∀ h, row = some h → ∃ t' cs', Blk w h t' cs' ∧ t' ≠ 121) : SfRow w' gd b t us fs := fun k u f h1 h2 => by
  obtain ⟨gs, pos, e, a, c⟩ := h k u f h1 h2
  exact ⟨gs, pos, e, Blk.grownT a hg hr, c⟩
theorem SfRow.below {w w' : World} {gd : Nat} {b t : List UInt8} {us : List Value} {fs : List FileD} (h : SfRow w gd b t us fs) (hb : Below w.heap.size w w') : SfRow w' gd b t us fs := fun k u f h1 h2 => by
  obtain ⟨gs, pos, e, a, c⟩ := h k u f h1 h2
  exact ⟨gs, pos, e, Blk.below a hb (Blk.lt a), c⟩
theorem SfRow.snoc {w : World} {gd gs pos : Nat} {b t : List UInt8} {us : List Value} {fs : List FileD} {f : FileD} (h : SfRow w gd b t us fs) (hf : fs[us.length]? = some f) (a : SfAt w gs gd pos) (c : FileIs b t pos f) : SfRow w gd b t (us ++ [.pointer (some ⟨gs, 0, none⟩)]) fs := fun k u g h1 h2 => by
  by_cases hk : k < us.length
  · rw [List.getElem?_append_left hk] at h1
    exact h k u g h1 h2
  · rw [List.getElem?_append_right (by omega)] at h1
    have hk0 : k - us.length = 0 := by
      have := (List.getElem?_eq_some_iff.1 h1).1
      simp at this
      omega
    rw [hk0] at h1
    simp at h1
    have hkk : k = us.length := by omega
    rw [hkk, hf] at h2
    injection h2 with h2
    subst h1
    subst h2
    exact ⟨gs, pos, rfl, a, c⟩
def SfsAt (w : World) (gd : Nat) (b t : List UInt8) (v : Value) (fs : List FileD) : Prop :=
  ∃ A c us, v = .slice A fs.length c ∧ Reads w w.heap.size 1 A fs.length us ∧ SfRow w gd b t us fs
theorem SfsAt.below {w w' : World} {gd : Nat} {b t : List UInt8} {v : Value} {fs : List FileD} (h : SfsAt w gd b t v fs) (hb : Below w.heap.size w w') : SfsAt w' gd b t v fs := by
  obtain ⟨A, c, us, h1, h2, h3⟩ := h
  exact ⟨A, c, us, h1, (h2.below hb).more hb.size, h3.below hb⟩
/-- A package that was looked up. -/
def IPkg (w : World) (gp gd : Nat) (b t : List UInt8) (p : PkgD) : Prop :=
  ∃ ev r vs, Blk w gp 109 #[ev, .string p.dir, .string r, vs] ∧ ErrTold w ev p.err ∧ SfsAt w gd b t vs p.files
theorem IPkg.below {w w' : World} {gp gd : Nat} {b t : List UInt8} {p : PkgD} (h : IPkg w gp gd b t p) (hb : Below w.heap.size w w') : IPkg w' gp gd b t p := by
  obtain ⟨ev, r, vs, h1, h2, h3⟩ := h
  exact ⟨ev, r, vs, h1.below hb h1.lt, h2.below hb, h3.below hb⟩

theorem empty_of {s : ByteArray} (h : s.toList.isEmpty = true) : s = ByteArray.empty := by
  rw [ByteArray.toList_eq] at h
  obtain ⟨⟨l⟩⟩ := s
  cases l with
  | nil => rfl
  | cons x l => simp at h
theorem empty_list : ByteArray.empty.toList = [] := by rw [ByteArray.toList_eq]; rfl
theorem RdIn.far {w0 w : World} {gr gd p : Nat} {b t : List UInt8} (h : RdIn w0 w gr gd p b t) {a : Addr} (hne : gr ≠ a.block) (ha : w0.heap.size ≤ a.block) (u : Value) : RdIn w0 (w.setCell a u) gr gd p b t :=
  ⟨h.dec, h.bel.setCell ha u, h.own, Blk.far h.at_ hne u⟩

theorem psf_info : (Tryz.prog.info? 111).map (fun i => (i.zero, i.size, i.bytes)) = some (some (.pointer none), 1, 8) := by kernel_rfl

set_option maxHeartbeats 4000000 in
set_option maxRecDepth 100000 in
theorem pkg_any (gm gd off hi n k : Nat) (p : PkgD) (b t : List UInt8) (w : World) (hk : k < n) (hn : n ≤ 10) (hm : ModAt w gm gd n) (hd : DecAt w gd b t) (hi0 : IntIs b (24 + 8 * k) off) (hpk : PkgIs b t off hi p) (hok : p.Ok) :
    Calls Tryz.prog 29 #[.pointer (some ⟨gm, 0, none⟩), .int .i64 (k : Int)] w fun e w' => ∃ gp, e = .returned (.pointer (some ⟨gp, 0, none⟩)) ∧ IPkg w' gp gd b t p ∧ Below w.heap.size w w' := by
  obtain ⟨i0, hi1, hz0, hz1, hz2⟩ := info_parts' psf_info
  have hc := hok.filesL
  have C0 := Lib.hid (pkgOff_any gm gd off n b t w.drew k hk hn hm hd hi0)
  obtain ⟨r, hmb⟩ := hm
  have HM := Lib.hid hmb
  have hHeld : w.drew.cell? ⟨gm, 1, none⟩ = some (.pointer (some ⟨gd, 0, none⟩)) := hmb.cell 1
  obtain ⟨hp1, hp2, hp3⟩ := hpk
  have p0 : ItIs b t off (.s p.err) := hp1 0 _ rfl
  have p1 : ItIs b t (off + 4) (.s p.dir) := hp1 1 _ rfl
  have p2 : ItIs b t (off + 4 + 4) (.n p.files.length) := hp1 2 _ rfl
  have CE := Lib.hid (fun (W : World) (gr : Nat) (hr : RdIn w W gr gd off b t) => rd_string w gr gd off p.err b t W hr p0)
  have CD := Lib.hid (fun (W : World) (gr : Nat) (hr : RdIn w W gr gd (off + 4) b t) => rd_string w gr gd (off + 4) p.dir b t W hr p1)
  have CN := Lib.hid (fun (W : World) (gr : Nat) (hr : RdIn w W gr gd (off + 4 + 4) b t) => rd_int w gr gd (off + 4 + 4) p.files.length b t W hr p2)
  have HMK := Lib.hid (fun (W : World) => run_make (P := Tryz.prog) W 107 111 i0 _ Tryz.underlying107 hi1 hz0 .i64 .i64 (p.files.length : Int) (p.files.length : Int) (by omega) (Int.le_refl _) (by rw [hz2]; omega) (by omega))
  rw [hz1, Int.toNat_natCast, Nat.mul_one, show (Value.pointer none).cells = #[.pointer none] from rfl] at HMK
  have HD := Lib.hid hd
  have HP3 := Lib.hid hp3
  clear hd hi0 hp1 hp2 hp3 p0 p1 p2 hok hmb
  go_enter Tryz.func29, Tryz.ntmps29
  go_wp2_with fail
  refine wp_region_m 99 (fun W => W.cell? ⟨gm, 1, none⟩ = some (.pointer (some ⟨gd, 0, none⟩))) (by kernel_rfl) ?_
  refine wpAnyM_take (i := 0) (oi := ⟨some 9, _, _, _, _, _⟩) (v := (.pointer (some ⟨gm, 0, none⟩))) rfl (by kernel_rfl) (by kernel_rfl) (by kernel_rfl) (by kernel_rfl) (by decide) (fun _ _ _ h => h) (by assumption) (Or.inl ⟨by rfl, ?_⟩) ?_
  · intro W hSW
    (try dsimp only at hSW)
    go_simp
  (try go_frame)
  refine wpAnyM_take (i := 1) (oi := ⟨some 10, _, _, _, _, _⟩) (v := (.pointer (some ⟨gm, 0, none⟩))) rfl (by kernel_rfl) (by kernel_rfl) (by kernel_rfl) (by kernel_rfl) (by decide) (fun _ _ _ h => h) (by assumption) (Or.inl ⟨by rfl, ?_⟩) ?_
  · intro W hSW
    (try dsimp only at hSW)
    go_simp
  (try go_frame)
  refine wpAnyM_take (i := 2) (oi := ⟨some 11, _, _, _, _, _⟩) (v := (.pointer (some ⟨gm, 1, none⟩))) rfl (by kernel_rfl) (by kernel_rfl) (by kernel_rfl) (by kernel_rfl) (by decide) (fun _ _ _ h => h) (by assumption) (Or.inl ⟨by rfl, ?_⟩) ?_
  · intro W hSW
    (try dsimp only at hSW)
    go_simp
  (try go_frame)
  refine wpAnyM_take (i := 3) (oi := ⟨some 12, _, _, _, _, _⟩) (v := (.pointer (some ⟨gd, 0, none⟩))) rfl (by kernel_rfl) (by kernel_rfl) (by kernel_rfl) (by kernel_rfl) (by decide) (fun _ _ _ h => h) (by assumption) (Or.inl ⟨by rfl, ?_⟩) ?_
  · intro W hSW
    (try dsimp only at hSW)
    go_simp
  (try go_frame)
  refine wpAnyM_take (i := 4) (oi := ⟨some 13, _, _, _, _, _⟩) (v := (.pointer (some ⟨gm, 0, none⟩))) rfl (by kernel_rfl) (by kernel_rfl) (by kernel_rfl) (by kernel_rfl) (by decide) (fun _ _ _ h => h) (by assumption) (Or.inl ⟨by rfl, ?_⟩) ?_
  · intro W hSW
    (try dsimp only at hSW)
    go_simp
  (try go_frame)
  refine wpAnyM_take (i := 5) (oi := ⟨some 14, _, _, _, _, _⟩) (v := (.int .i64 (k : Int))) rfl (by kernel_rfl) (by kernel_rfl) (by kernel_rfl) (by kernel_rfl) (by decide) (fun _ _ _ h => h) (by assumption) (Or.inl ⟨by rfl, ?_⟩) ?_
  · intro W hSW
    (try dsimp only at hSW)
    go_simp
  (try go_frame)
  refine wpAnyM_only (i := 6) (oi := ⟨some 15, _, _, _, _, _⟩) rfl (by kernel_rfl) (fun K hK => ?_)
  go_simp
  refine C0.out.mono ?_
  rintro e w1 ⟨rfl, j, rfl⟩
  go_wp2_with fail
  refine hK.out _ _ (.inr hHeld) ?_
  clear hK K
  (try go_frame)
  refine wpAnyM_only (i := 7) (oi := ⟨some 16, _, _, _, _, _⟩) rfl (by kernel_rfl) (fun K hK => ?_)
  go_simp
  refine (readAt_any gd off _).mono ?_
  rintro e w1 ⟨rfl, hw1⟩
  have hHeld1 : w1.cell? ⟨gm, 1, none⟩ = some (.pointer (some ⟨gd, 0, none⟩)) := by
    rw [hw1]
    exact (Blk.alloc (w := w.drewN (1 + j)) HM.out _).cell 1
  have R1 : RdIn w w1 w.heap.size gd off b t := by
    rw [hw1]
    exact ⟨HD.out, (below_dn (Below.refl w.heap.size w) (1 + j)).alloc (Nat.le_refl _) _, Nat.le_refl _, Blk.new (w.drewN (1 + j)) _ _⟩
  have hgr1 : w1.heap.size = w.heap.size + 1 := by rw [hw1]; simp
  have HR1 := Lib.hid R1
  have HS1 := Lib.hid hgr1
  clear hw1 R1
  go_wp2_with fail
  refine hK.out _ _ (.inr hHeld1) ?_
  clear hK K
  (try go_frame)
  refine wpAnyM_take (i := 8) (oi := ⟨some 5, _, _, _, _, _⟩) (v := (.pointer (some ⟨w.heap.size, 0, none⟩))) rfl (by kernel_rfl) (by kernel_rfl) (by kernel_rfl) (by kernel_rfl) (by decide) (fun _ _ _ h => h) (by assumption) (Or.inl ⟨by rfl, ?_⟩) ?_
  · intro W hSW
    (try dsimp only at hSW)
    go_simp
  (try go_frame)
  refine wpAnyM_done (by kernel_rfl) (NoPanic.normal ?_)
  clear hHeld hHeld1 C0
  go_wp2_with fail
  refine (CE.out _ w.heap.size (HR1.out.alloc _)).mono ?_
  rintro e w2 ⟨rfl, d2⟩
  have R2 := (HR1.out.alloc (.cells #[.nilIface, .string { data := #[] }, .string { data := #[] }, .slice none 0 0] 109)).step d2
  have hB2 := (Blk.new w1 109 #[.nilIface, .string { data := #[] }, .string { data := #[] }, .slice none 0 0]).grown d2.2 (fun e => by injection e with e; have := HS1.out; omega)
  rw [HS1.out] at hB2
  have HR2 := Lib.hid R2
  have HB2 := Lib.hid hB2
  clear d2 R2 hB2 HR1
  have hsz2 : w.heap.size + 1 < w2.heap.size := HB2.out.lt
  obtain ⟨q0, q1, q2, q3⟩ : w2.cell? ⟨w.heap.size + 1, 0, none⟩ = some .nilIface ∧ w2.cell? ⟨w.heap.size + 1, 1, none⟩ = some (.string { data := #[] }) ∧ w2.cell? ⟨w.heap.size + 1, 2, none⟩ = some (.string { data := #[] }) ∧ w2.cell? ⟨w.heap.size + 1, 3, none⟩ = some (.slice none 0 0) := ⟨HB2.out.cell 0, HB2.out.cell 1, HB2.out.cell 2, HB2.out.cell 3⟩
  have qf := fun i => HB2.out.frozen i
  cases he : (!p.err.toList.isEmpty)
  case' false =>
    have HE0 : Hid (ErrIs w2 .nilIface p.err) := Lib.hid (.inl ⟨empty_of (by simpa using he), rfl⟩)
    go_wp2_with fail
    refine (CD.out _ w.heap.size HR2.out).mono ?_
    rintro e w3 ⟨rfl, d3⟩
    have HR3 := Lib.hid (HR2.out.step d3)
    have HB3 := Lib.hid (HB2.out.grown d3.2 (fun e => by injection e with e; omega))
    have HE3 := Lib.hid (HE0.out.grownT d3.2 (fun h e => by injection e with e; subst e; exact ⟨_, _, HR2.out.at_, by decide⟩))
  case' true =>
    have hne : p.err ≠ ByteArray.empty := fun e => by rw [e, empty_list] at he; simp at he
    have HNE := Lib.hid hne
    clear hne
    go_wp2_with fail
    refine (errorsNew_any _ _).mono ?_
    rintro e w3 ⟨rfl, hw3⟩
    have hG : w2.grownBy w3 none := by rw [hw3]; exact World.grownBy_alloc _ _ _
    have hb3 := HB2.out.grown hG (by simp)
    have hbe : Blk w3 w2.heap.size 146 #[.string p.err] := by rw [hw3]; exact Blk.new _ _ _
    have h0 := hb3.cell 0
    have f0 := hb3.frozen 0
    have HG := Lib.hid hG
    have hb4 := hb3.set_ 0 (.iface 144 (.pointer (some ⟨w2.heap.size, 0, none⟩)))
    simp only [List.setIfInBounds_toArray, List.set_cons_zero] at hb4
    have hR3 := HR2.out.alloc (.cells #[.string p.err] 146)
    rw [← hw3] at hR3
    have hR4 := hR3.far (a := ⟨w.heap.size + 1, 0, none⟩) (by show w.heap.size ≠ w.heap.size + 1; omega) (by show w.heap.size ≤ w.heap.size + 1; omega) (.iface 144 (.pointer (some ⟨w2.heap.size, 0, none⟩)))
    have hE4 : ErrIs (w3.setCell ⟨w.heap.size + 1, 0, none⟩ (.iface 144 (.pointer (some ⟨w2.heap.size, 0, none⟩)))) (.iface 144 (.pointer (some ⟨w2.heap.size, 0, none⟩))) p.err := .inr ⟨HNE.out, _, rfl, hbe.far (by show w2.heap.size ≠ w.heap.size + 1; omega) _⟩
    have HB4 := Lib.hid hb4
    have HR4 := Lib.hid hR4
    have HE4 := Lib.hid hE4
    clear hw3 hG hb3 hbe hb4 hR3 hR4 hE4
    go_wp2_with fail
    refine (CD.out _ w.heap.size HR4.out).mono ?_
    rintro e w3 ⟨rfl, d3⟩
    have HR3 := Lib.hid (HR4.out.step d3)
    have HB3 := Lib.hid (HB4.out.grown d3.2 (fun e => by injection e with e; omega))
    have HE3 := Lib.hid (HE4.out.grownT d3.2 (fun h e => by injection e with e; subst e; exact ⟨_, _, HR4.out.at_, by decide⟩))
    clear h0 f0
  all_goals
    obtain ⟨ev, HB3, HE3⟩ : ∃ ev, Hid (Blk w3 (w.heap.size + 1) 109 #[ev, .string { data := #[] }, .string { data := #[] }, .slice none 0 0]) ∧ Hid (ErrIs w3 ev p.err) := ⟨_, HB3, HE3⟩
    clear d3 q0 q1 q2 q3 qf he
    have r1 := HB3.out.cell 1
    have rf1 := HB3.out.frozen 1
    have hb4 := HB3.out.set_ 1 (.string p.dir)
    simp only [List.setIfInBounds_toArray, List.set_cons_zero, List.set_cons_succ] at hb4
    have HB4 := Lib.hid hb4
    have HR4 := Lib.hid (HR3.out.far (a := ⟨w.heap.size + 1, 1, none⟩) (by show w.heap.size ≠ w.heap.size + 1; omega) (by show w.heap.size ≤ w.heap.size + 1; omega) (.string p.dir))
    have HE4 := Lib.hid (HE3.out.grownT (grownBy_setCell w3 ⟨w.heap.size + 1, 1, none⟩ (.string p.dir)) (fun h e => by injection e with e; subst e; exact ⟨_, _, HB3.out, by decide⟩))
    clear hb4
    go_wp2_with fail
    refine (CN.out _ w.heap.size HR4.out).mono ?_
    rintro e w5 ⟨rfl, d5⟩
    have HR5 := Lib.hid (HR4.out.step d5)
    have HB5 := Lib.hid (HB4.out.grown d5.2 (fun e => by injection e with e; omega))
    have HE5 := Lib.hid (HE4.out.grownT d5.2 (fun h e => by injection e with e; subst e; exact ⟨_, _, HR4.out.at_, by decide⟩))
    clear d5 r1 rf1 HR3 HB3 HE3
    have hmk := HMK.out
    have r3 : w5.cell? ⟨w.heap.size + 1, 3, none⟩ = some (.slice none 0 0) := HB5.out.cell 3
    have rf3 := HB5.out.frozen 3
    have hsz5 : w.heap.size + 1 < w5.heap.size := HB5.out.lt
    have hszW : (w5.setCell ⟨w.heap.size + 1, 3, none⟩ (.slice (some ⟨w5.heap.size, 0, none⟩) p.files.length p.files.length)).heap.size = w5.heap.size := by simp
    have hS0 : Fills ((w5.setCell ⟨w.heap.size + 1, 3, none⟩ (.slice (some ⟨w5.heap.size, 0, none⟩) p.files.length p.files.length)).alloc (.cells (madeCells #[.pointer none] p.files.length) 111)) w5.heap.size 111 p.files.length [] := by
      have := Fills.made (w5.setCell ⟨w.heap.size + 1, 3, none⟩ (.slice (some ⟨w5.heap.size, 0, none⟩) p.files.length p.files.length)) (madeCells #[.pointer none] p.files.length) 111
      rw [size_madeCells, hszW] at this
      exact this
    have hb6 := HB5.out.set_ 3 (.slice (some ⟨w5.heap.size, 0, none⟩) p.files.length p.files.length)
    simp only [List.setIfInBounds_toArray, List.set_cons_zero, List.set_cons_succ] at hb6
    have HB6 := Lib.hid (hb6.alloc (.cells (madeCells #[.pointer none] p.files.length) 111))
    have HR6 := Lib.hid ((HR5.out.far (a := ⟨w.heap.size + 1, 3, none⟩) (by show w.heap.size ≠ w.heap.size + 1; omega) (by show w.heap.size ≤ w.heap.size + 1; omega) (.slice (some ⟨w5.heap.size, 0, none⟩) p.files.length p.files.length)).alloc (.cells (madeCells #[.pointer none] p.files.length) 111))
    have HE6 := Lib.hid ((HE5.out.grownT (grownBy_setCell w5 ⟨w.heap.size + 1, 3, none⟩ (.slice (some ⟨w5.heap.size, 0, none⟩) p.files.length p.files.length)) (fun h e => by injection e with e; subst e; exact ⟨_, _, HB5.out, by decide⟩)).grownT (World.grownBy_alloc _ (.cells (madeCells #[.pointer none] p.files.length) 111) none) (fun h e => by cases e))
    have HS0 := Lib.hid hS0
    clear hb6 hS0 hszW
    go_wp2_with fail
    clear r3 rf3 hmk
    go_loopw [8, 43] (fun _ i wr => ∃ m : Nat, m ≤ p.files.length ∧ i = .int .i64 m ∧ RdIn w wr w.heap.size gd (off + 12 + 4 * m) b t ∧ Blk wr (w.heap.size + 1) 109 #[ev, .string p.dir, .string { data := #[] }, .slice (some ⟨w5.heap.size, 0, none⟩) p.files.length p.files.length] ∧ ErrIs wr ev p.err ∧ ∃ us, us.length = m ∧ Fills wr w5.heap.size 111 p.files.length us ∧ SfRow wr gd b t us p.files) (fun _ i _ => p.files.length - (intOf i).toNat)
    case atStart => exact ⟨0, Nat.zero_le _, rfl, HR6.out.place (by omega), HB6.out, HE6.out, [], rfl, HS0.out, fun k u f h => by simp at h⟩
    case round =>
      clear HR6 HB6 HE6 HS0
      obtain ⟨m, hm, rfl, hR, hB, hE, us, rfl, hF, hS⟩ := hrel
      by_cases hlt : us.length < p.files.length
      · obtain ⟨fo, hfo, _, _, hits⟩ := HP3.out us.length _ (List.getElem?_eq_getElem hlt)
        have CI := Lib.hid (rd_int w w.heap.size gd (off + 12 + 4 * us.length) fo b t wr.drew hR.drew hfo)
        have hHeld : wr.drew.cell? ⟨w.heap.size + 1, 3, none⟩ = some (.slice (some ⟨w5.heap.size, 0, none⟩) p.files.length p.files.length) ∧ wr.drew.cell? ⟨gm, 1, none⟩ = some (.pointer (some ⟨gd, 0, none⟩)) := ⟨hB.cell 3, (HM.out.below hR.bel HM.out.lt).cell 1⟩
        have HR := Lib.hid hR
        have HB := Lib.hid hB
        have HE := Lib.hid hE
        have HF := Lib.hid hF
        have HSF := Lib.hid hS
        have hgl := hF.lt
        clear hR hB hE hF hS
        go_wp2_with fail
        refine wp_region_m 14 (fun W => W.cell? ⟨w.heap.size + 1, 3, none⟩ = some (.slice (some ⟨w5.heap.size, 0, none⟩) p.files.length p.files.length) ∧ W.cell? ⟨gm, 1, none⟩ = some (.pointer (some ⟨gd, 0, none⟩))) (by kernel_rfl) ?_
        refine wpAnyM_take (i := 0) (oi := ⟨some 46, _, _, _, _, _⟩) (v := (.pointer (some ⟨w.heap.size + 1, 0, none⟩))) rfl (by kernel_rfl) (by kernel_rfl) (by kernel_rfl) (by kernel_rfl) (by decide) (fun _ _ _ h => h) (by assumption) (Or.inl ⟨by rfl, ?_⟩) ?_
        · intro W hSW
          (try dsimp only at hSW)
          go_simp
        (try go_frame)
        refine wpAnyM_take (i := 1) (oi := ⟨some 47, _, _, _, _, _⟩) (v := (.pointer (some ⟨w.heap.size + 1, 0, none⟩))) rfl (by kernel_rfl) (by kernel_rfl) (by kernel_rfl) (by kernel_rfl) (by decide) (fun _ _ _ h => h) (by assumption) (Or.inl ⟨by rfl, ?_⟩) ?_
        · intro W hSW
          (try dsimp only at hSW)
          go_simp
        (try go_frame)
        refine wpAnyM_take (i := 2) (oi := ⟨some 48, _, _, _, _, _⟩) (v := (.pointer (some ⟨w.heap.size + 1, 3, none⟩))) rfl (by kernel_rfl) (by kernel_rfl) (by kernel_rfl) (by kernel_rfl) (by decide) (fun _ _ _ h => h) (by assumption) (Or.inl ⟨by rfl, ?_⟩) ?_
        · intro W hSW
          (try dsimp only at hSW)
          go_simp
        (try go_frame)
        refine wpAnyM_take (i := 3) (oi := ⟨some 49, _, _, _, _, _⟩) (v := (.slice (some ⟨w5.heap.size, 0, none⟩) p.files.length p.files.length)) rfl (by kernel_rfl) (by kernel_rfl) (by kernel_rfl) (by kernel_rfl) (by decide) (fun _ _ _ h => h) (by assumption) (Or.inl ⟨by rfl, ?_⟩) ?_
        · intro W hSW
          (try dsimp only at hSW)
          go_simp
        (try go_frame)
        refine wpAnyM_take (i := 4) (oi := ⟨some 50, _, _, _, _, _⟩) (v := (.int .i64 (us.length : Int))) rfl (by kernel_rfl) (by kernel_rfl) (by kernel_rfl) (by kernel_rfl) (by decide) (fun _ _ _ h => h) (by assumption) (Or.inl ⟨by rfl, ?_⟩) ?_
        · intro W hSW
          (try dsimp only at hSW)
          go_simp
        (try go_frame)
        refine wpAnyM_take (i := 5) (oi := ⟨some 51, _, _, _, _, _⟩) (v := (.pointer (some ⟨gm, 0, none⟩))) rfl (by kernel_rfl) (by kernel_rfl) (by kernel_rfl) (by kernel_rfl) (by decide) (fun _ _ _ h => h) (by assumption) (Or.inl ⟨by rfl, ?_⟩) ?_
        · intro W hSW
          (try dsimp only at hSW)
          go_simp
        (try go_frame)
        refine wpAnyM_take (i := 6) (oi := ⟨some 52, _, _, _, _, _⟩) (v := (.pointer (some ⟨gm, 0, none⟩))) rfl (by kernel_rfl) (by kernel_rfl) (by kernel_rfl) (by kernel_rfl) (by decide) (fun _ _ _ h => h) (by assumption) (Or.inl ⟨by rfl, ?_⟩) ?_
        · intro W hSW
          (try dsimp only at hSW)
          go_simp
        (try go_frame)
        refine wpAnyM_take (i := 7) (oi := ⟨some 53, _, _, _, _, _⟩) (v := (.pointer (some ⟨gm, 1, none⟩))) rfl (by kernel_rfl) (by kernel_rfl) (by kernel_rfl) (by kernel_rfl) (by decide) (fun _ _ _ h => h) (by assumption) (Or.inl ⟨by rfl, ?_⟩) ?_
        · intro W hSW
          (try dsimp only at hSW)
          go_simp
        (try go_frame)
        refine wpAnyM_take (i := 8) (oi := ⟨some 54, _, _, _, _, _⟩) (v := (.pointer (some ⟨gd, 0, none⟩))) rfl (by kernel_rfl) (by kernel_rfl) (by kernel_rfl) (by kernel_rfl) (by decide) (fun _ _ _ h => h) (by assumption) (Or.inl ⟨by rfl, ?_⟩) ?_
        · intro W hSW
          (try dsimp only at hSW)
          go_simp
        (try go_frame)
        refine wpAnyM_take (i := 9) (oi := ⟨some 55, _, _, _, _, _⟩) (v := (.pointer (some ⟨w.heap.size, 0, none⟩))) rfl (by kernel_rfl) (by kernel_rfl) (by kernel_rfl) (by kernel_rfl) (by decide) (fun _ _ _ h => h) (by assumption) (Or.inl ⟨by rfl, ?_⟩) ?_
        · intro W hSW
          (try dsimp only at hSW)
          go_simp
        (try go_frame)
        refine wpAnyM_only (i := 10) (oi := ⟨some 56, _, _, _, _, _⟩) rfl (by kernel_rfl) (fun K hK => ?_)
        go_simp
        refine CI.out.mono ?_
        rintro e w7 ⟨rfl, d7⟩
        have hR7 := (HR.out.drew.step d7).place (show off + 12 + 4 * us.length + 4 = off + 12 + 4 * (us.length + 1) by omega)
        have hB7 := (HB.out.drew).grown d7.2 (fun e => by injection e with e; omega)
        have hE7 := HE.out.grownT (only_of_drew d7.2) (fun h e => by injection e with e; subst e; exact ⟨_, _, HR.out.at_, by decide⟩)
        have hF7 := HF.out.grown (only_of_drew d7.2) (fun e => by injection e with e; omega)
        have hS7 := HSF.out.grownT (only_of_drew d7.2) (fun h e => by injection e with e; subst e; exact ⟨_, _, HR.out.at_, by decide⟩)
        have hHeld7 : w7.cell? ⟨w.heap.size + 1, 3, none⟩ = some (.slice (some ⟨w5.heap.size, 0, none⟩) p.files.length p.files.length) ∧ w7.cell? ⟨gm, 1, none⟩ = some (.pointer (some ⟨gd, 0, none⟩)) := ⟨hB7.cell 3, (HM.out.below hR7.bel HM.out.lt).cell 1⟩
        have hsz7 : w5.heap.size < w7.heap.size := hF7.lt
        have hF8 := hF7.alloc (.cells #[.pointer (some ⟨gd, 0, none⟩), .int .i64 (fo : Int)] 121)
        have hgA := World.grownBy_alloc w7 (.cells #[.pointer (some ⟨gd, 0, none⟩), .int .i64 (fo : Int)] 121) none
        have hE8 := hE7.grownT hgA (fun h e => by cases e)
        have hS8 := (hS7.grownT hgA (fun h e => by cases e)).snoc (List.getElem?_eq_getElem hlt) (Blk.new w7 _ _) (FileIs.of hits)
        have hB8 := hB7.alloc (.cells #[.pointer (some ⟨gd, 0, none⟩), .int .i64 (fo : Int)] 121)
        have hR8 := hR7.alloc (.cells #[.pointer (some ⟨gd, 0, none⟩), .int .i64 (fo : Int)] 121)
        have hHeld8 : (w7.alloc (.cells #[.pointer (some ⟨gd, 0, none⟩), .int .i64 (fo : Int)] 121)).cell? ⟨w.heap.size + 1, 3, none⟩ = some (.slice (some ⟨w5.heap.size, 0, none⟩) p.files.length p.files.length) ∧ (w7.alloc (.cells #[.pointer (some ⟨gd, 0, none⟩), .int .i64 (fo : Int)] 121)).cell? ⟨gm, 1, none⟩ = some (.pointer (some ⟨gd, 0, none⟩)) := ⟨hB8.cell 3, (HM.out.below hR8.bel HM.out.lt).cell 1⟩
        obtain ⟨u, hc8, hf8⟩ := hF8.cell us.length hlt
        obtain ⟨_, hcf, _⟩ := id hF8
        have hgs := grownBy_setCell (w7.alloc (.cells #[.pointer (some ⟨gd, 0, none⟩), .int .i64 (fo : Int)] 121)) ⟨w5.heap.size, us.length, none⟩ (.pointer (some ⟨w7.heap.size, 0, none⟩))
        have HE9 := Lib.hid (hE8.grownT hgs (fun h e => by injection e with e; subst e; exact ⟨_, _, hcf, by decide⟩))
        have HS9 := Lib.hid (hS8.grownT hgs (fun h e => by injection e with e; subst e; exact ⟨_, _, hcf, by decide⟩))
        have HF9 := Lib.hid (hF8.put hlt (.pointer (some ⟨w7.heap.size, 0, none⟩)))
        have HB9 := Lib.hid (hB8.far (p := ⟨w5.heap.size, us.length, none⟩) (by show w.heap.size + 1 ≠ w5.heap.size; omega) (.pointer (some ⟨w7.heap.size, 0, none⟩)))
        have HR9 := Lib.hid (hR8.far (a := ⟨w5.heap.size, us.length, none⟩) (by show w.heap.size ≠ w5.heap.size; omega) (by show w.heap.size ≤ w5.heap.size; omega) (.pointer (some ⟨w7.heap.size, 0, none⟩)))
        have hm0 : (0 : Int) ≤ (us.length : Int) := by omega
        have hm1 : (us.length : Int) < (p.files.length : Int) := by omega
        have hcomm : (w7.alloc (.cells #[.pointer (some ⟨gd, 0, none⟩), .int .i64 (fo : Int)] 121)).setCell ⟨w5.heap.size, us.length, none⟩ (.pointer (some ⟨w7.heap.size, 0, none⟩)) = (w7.setCell ⟨w5.heap.size, us.length, none⟩ (.pointer (some ⟨w7.heap.size, 0, none⟩))).alloc (.cells #[.pointer (some ⟨gd, 0, none⟩), .int .i64 (fo : Int)] 121) := World.setCell_alloc_past _ _ _ _ hsz7
        rw [hcomm] at HR9 HB9 HE9 HF9 HS9
        clear hcomm d7 hR7 hB7 hE7 hF7 hS7 hF8 hgA hE8 hS8 hB8 hR8 hcf hgs
        go_wp2_with fail
        refine hK.out _ _ (.inr hHeld7) ?_
        clear hK K
        (try go_frame)
        clear hHeld
        refine wpAnyM_take (i := 11) (oi := ⟨some 57, _, _, _, _, _⟩) (v := (.agg #[.pointer (some ⟨gd, 0, none⟩), .int .i64 (fo : Int)])) rfl (by kernel_rfl) (by kernel_rfl) (by kernel_rfl) (by kernel_rfl) (by decide) (fun _ _ _ h => h) (by assumption) (Or.inl ⟨by rfl, ?_⟩) ?_
        · intro W hSW
          (try dsimp only at hSW)
          go_simp
        (try go_frame)
        refine wpAnyM_only (i := 12) (oi := ⟨some 58, _, _, _, _, _⟩) rfl (by kernel_rfl) (fun K hK => ?_)
        go_simp
        refine hK.out _ _ (.inr hHeld8) ?_
        clear hK K
        (try go_frame)
        clear hHeld7
        refine wpAnyM_take (i := 13) (oi := ⟨some 59, _, _, _, _, _⟩) (v := (.pointer (some ⟨w5.heap.size, us.length, none⟩))) rfl (by kernel_rfl) (by kernel_rfl) (by kernel_rfl) (by kernel_rfl) (by decide) (fun _ _ _ h => h) (by assumption) (Or.inl ⟨by rfl, ?_⟩) ?_
        · intro W hSW
          (try dsimp only at hSW)
          go_simp
        (try go_frame)
        refine wpAnyM_only (i := 14) (oi := ⟨none, _, _, _, _, _⟩) rfl (by kernel_rfl) (fun K hK => ?_)
        go_simp
        refine hK.out _ _ (.inl rfl) ?_
        clear hK K
        (try go_frame)
        refine wpAnyM_done (by kernel_rfl) (NoPanic.normal ?_)
        clear hHeld8 hc8 hf8
        go_wp2_with fail
        go_roundw
        case rel => exact ⟨us.length + 1, by omega, by go_num, HR9.out, HB9.out, HE9.out, us ++ [.pointer (some ⟨w7.heap.size, 0, none⟩)], by simp, HF9.out, HS9.out⟩
        case measure => simp [intOf]; omega
      · have hml : us.length = p.files.length := by omega
        have c0 : wr.cell? ⟨gm, 0, none⟩ = some (.string r) := (HM.out.below hR.bel HM.out.lt).cell 0
        have c2 : wr.cell? ⟨w.heap.size + 1, 2, none⟩ = some (.string { data := #[] }) := hB.cell 2
        have f2 := hB.frozen 2
        have hgs := grownBy_setCell wr ⟨w.heap.size + 1, 2, none⟩ (.string r)
        have hrow : ∀ t, 109 ≠ t → ∀ h, some (⟨w.heap.size + 1, 2, none⟩ : Addr).block = some h → ∃ t' cs', Blk wr h t' cs' ∧ t' ≠ t := fun t ht h e => by injection e with e; subst e; exact ⟨_, _, hB, ht⟩
        have hb9 := hB.set_ 2 (.string r)
        simp only [List.setIfInBounds_toArray, List.set_cons_zero, List.set_cons_succ] at hb9
        have HB9 := Lib.hid hb9
        have HE9 := Lib.hid (hE.grownT hgs (hrow _ (by decide)))
        have HS9 := Lib.hid (hS.grownT hgs (hrow _ (by decide)))
        have hO := Fills.own (n := p.files.length) (size := 1) (base := 0) (by rw [Nat.mul_one]; exact hF) (by omega) (Nat.zero_le _) (by unfold maxLen; omega)
        have HO := Lib.hid (Reads.of_own (hO.kept hgs (.inr (own_blk_ne hO hB (by decide)))))
        have HBL := Lib.hid (hR.bel.setCell (p := ⟨w.heap.size + 1, 2, none⟩) (by show w.heap.size ≤ w.heap.size + 1; omega) (.string r))
        clear hgs hrow hb9 hO hR hB hE hF hS
        go_wp2_with fail
        go_ret
        exact ⟨_, rfl, ⟨_, _, _, HB9.out, HE9.out.told, _, _, us, rfl, HO.out, HS9.out⟩, HBL.out⟩
end Go.Proofs.YtanfimeajalffaaGreatDoor
