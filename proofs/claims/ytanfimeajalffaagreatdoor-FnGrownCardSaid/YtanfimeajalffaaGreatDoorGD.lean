/-
  The decoder in memory: numbers and texts of an index, read. Conditions: what stands at the place (IntIs, TextAt).
  A byte's row of the table. No condition: a closed fact.
  The methods of a source file: its words, read. Condition: what stands at its place (ItsAt .. (headIts f)).
  The reader: numbers, texts and places, one behind the other. Conditions: a reader of the decoder (RdIn), what stands there (ItIs).
  The reader's places: tokpos. Conditions: a reader of the decoder (RdIn), what stands there (ItIs).
  Where the lists of a file begin: importsOffset, embedsOffset, directivesOffset. Condition: what stands there (FileIs).
  A file's first list, read: plusBuildConstraints. Condition: what stands there (FileIs).
  A file's lists with places, read: imports, embeds, directives. Condition: what stands there (FileIs).
-/
import Derived.Test.YtanfimeajalffaaGreatDoorInt
import Derived.Test.YtanfimeajalffaaGreatDoorStr
import Derived.Test.YtanfimeajalffaaGreatDoorGB
import Derived.Test.YtanfimeajalffaaGreatDoorGC
import Derived.IntWalk
import Derived.Deep.DrawnRows
namespace Go.Proofs.YtanfimeajalffaaGreatDoor
section
open Go.RowKit

theorem cell_lt {w : World} {p : Addr} {u : Value} (h : w.cell? p = some u) : p.block < w.heap.size := World.block_lt_of_cell? w p h
theorem BS.below {w w' : World} {v : Value} {l : List UInt8} (h : BS w v l) (hb : Below w.heap.size w w') : BS w' v l :=
  h.keep fun _ _ hu => (hb.cell (cell_lt hu)).trans hu
theorem byteCells_getElem (l : List UInt8) (j : Nat) (hj : j < l.length) : (Lib.byteCells l)[j]? = some (.int .u8 (l[j]).toNat) := by
  simp [Lib.byteCells, hj]
theorem byteCells_oneCell (l : List UInt8) : ∀ u ∈ Lib.byteCells l, u.oneCell' = true := by
  intro u hu
  simp only [Lib.byteCells, List.mem_map] at hu
  obtain ⟨b, _, rfl⟩ := hu
  rfl
/-- What holds bytes reads as the list of its cells. -/
theorem reads_of_bs {w : World} {A : Option Addr} {c : Nat} {l : List UInt8} (h : BS w (.slice A l.length c) l) : Reads w w.heap.size 1 A l.length (Lib.byteCells l) := by
  obtain ⟨A', c', hv, _, _, hp⟩ := h
  injection hv with hA _ _
  subst hA
  refine ⟨by simp [Lib.byteCells], fun h0 => ?_⟩
  obtain ⟨g, o, rfl, hcell⟩ := hp h0
  refine ⟨_, rfl, cell_lt (hcell 0 h0), fun j u hu => ?_⟩
  have hj : j < l.length := by
    have := (List.getElem?_eq_some_iff.1 hu).1
    simpa [Lib.byteCells] using this
  rw [byteCells_getElem l j hj] at hu
  have hadd : (⟨g, o, none⟩ : Addr).add j = ⟨g, o + j, none⟩ := by unfold Addr.add; split <;> simp_all
  rw [hadd, hcell j hj]
  exact hu
/-- What the call owns holds its bytes. -/
theorem bs_of_own {w : World} {base : Nat} {e : TypeId} {v : Value} {n : Nat} {l : List UInt8} (h : w.ownsRow base e 1 v n (Lib.byteCells l)) : BS w v l := by
  have hl : l.length = n := by simpa [Lib.byteCells] using h.1
  subst hl
  rcases h.2 with ⟨rfl, h0⟩ | ⟨g, cap, cur, rfl, _, hg, hc, hm, _, htk⟩
  · exact ⟨none, 0, by rw [h0], by omega, by simp [maxLen], fun hp => absurd hp (by omega)⟩
  · refine ⟨_, cap, rfl, hc, hm, fun _ => ⟨g, 0, rfl, fun j hj => ?_⟩⟩
    have hx := h.cells (g := g) rfl j _ (byteCells_getElem l j hj)
    have hadd : (⟨g, 0, none⟩ : Addr).add j = ⟨g, 0 + j, none⟩ := by unfold Addr.add; split <;> simp_all
    rw [hadd] at hx
    exact hx
theorem below_dn {B : Nat} {a w : World} (h : Below B a w) (n : Nat) : Below B a (w.drewN n) := ⟨h.os, h.tape, h.output, h.size, h.block⟩

/-- A decoder of the bytes b and the table t. -/
def DecAt (w : World) (gd : Nat) (b t : List UInt8) : Prop := ∃ vd vs, Blk w gd 104 #[vd, vs] ∧ BS w vd b ∧ BS w vs t
theorem DecAt.below {w w' : World} {gd : Nat} {b t : List UInt8} (h : DecAt w gd b t) (hb : Below w.heap.size w w') : DecAt w' gd b t := by
  obtain ⟨vd, vs, h1, h2, h3⟩ := h
  exact ⟨vd, vs, h1.below hb h1.lt, h2.below hb, h3.below hb⟩
theorem DecAt.lt {w : World} {gd : Nat} {b t : List UInt8} (h : DecAt w gd b t) : gd < w.heap.size := by
  obtain ⟨vd, vs, h1, _⟩ := h
  exact h1.lt
theorem BS.len {w : World} {v : Value} {l : List UInt8} (h : BS w v l) : l.length ≤ maxLen := by
  obtain ⟨A, c, _, h1, h2, _⟩ := h
  omega
theorem DecAt.len {w : World} {gd : Nat} {b t : List UInt8} (h : DecAt w gd b t) : b.length ≤ 9223372036854775807 ∧ t.length ≤ 9223372036854775807 := by
  obtain ⟨vd, vs, _, h2, h3⟩ := h
  have h2 := h2.len
  have h3 := h3.len
  simp only [maxLen] at h2 h3
  omega

theorem int_at (gd p n : Nat) (b t : List UInt8) (w : World) (hd : DecAt w gd b t) (h : IntIs b p n) :
    Calls Tryz.prog 38 #[.pointer (some ⟨gd, 0, none⟩), .int .i64 (p : Int)] w fun e w' => e = .returned (.int .i64 (n : Int)) ∧ ∃ k, w' = w.drewN k := by
  obtain ⟨vd, vs, h1, h2, _⟩ := hd
  have hn : num b p = n := h.num
  have hl := h.lt
  have h22 := h.2
  have := intAt_ok gd vd b p w (h1.cell 0) h2 hl (by rw [hn]; exact h22)
  rw [hn] at this
  exact this

theorem text_at (gd off : Nat) (s : ByteArray) (b t : List UInt8) (w : World) (hd : DecAt w gd b t) (h : TextAt t off s) :
    Calls Tryz.prog 82 #[.pointer (some ⟨gd, 0, none⟩), .int .i64 (off : Int)] w fun e w' => e = .returned (.string s) ∧ w = w' := by
  obtain ⟨vd, vs, h1, _, h2⟩ := hd
  have ho := h.lt
  obtain ⟨hs, r, hr⟩ := h
  have hu : Lib.uvarintDec (t.drop off) = (s.size, ((Lib.uvarint s.size).length : Int)) := by
    rw [hr]
    exact uvarintDec_uvarint s.size (by omega) _
  have hlen := congrArg List.length hr
  rw [List.length_drop, List.length_append, List.length_append] at hlen
  have hsz : s.data.toList.length = s.size := by simp
  have hx : ((t.drop (off + (Lib.uvarint s.size).length)).take s.size) = s.data.toList := by
    rw [← List.drop_drop, hr, List.drop_left, List.take_append_of_le_length (by omega), List.take_of_length_le (by omega)]
  have := strAt_ok gd vs t off s.size (Lib.uvarint s.size).length w (h1.cell 1) h2 ho hu (Lib.uvarint_pos _) (by omega)
  rw [hx] at this
  exact this

set_option maxHeartbeats 400000 in
theorem string_at (gd p : Nat) (s : ByteArray) (b t : List UInt8) (w : World) (hd : DecAt w gd b t) (h : ItIs b t p (.s s)) :
    Calls Tryz.prog 76 #[.pointer (some ⟨gd, 0, none⟩), .int .i64 (p : Int)] w fun e w' => e = .returned (.string s) ∧ ∃ k, w' = w.drewN k := by
  obtain ⟨off, h1, h2⟩ := h
  have C1 := Lib.hid (int_at gd p off b t w hd h1)
  have C2 := Lib.hid (fun k => text_at gd off s b t (w.drewN k) hd h2)
  clear hd h1 h2
  go_enter Tryz.func76, Tryz.ntmps76
  go_wp2_with fail
  refine C1.out.mono ?_
  rintro e w' ⟨rfl, k, rfl⟩
  go_wp2_with fail
  refine (C2.out k).mono ?_
  rintro e w' ⟨rfl, rfl⟩
  go_wp2_with fail
  go_ret
  exact ⟨rfl, k, rfl⟩

set_option maxHeartbeats 400000 in
theorem bool_at (gd p : Nat) (x : Bool) (b t : List UInt8) (w : World) (hd : DecAt w gd b t) (h : ItIs b t p (.n x.toNat)) :
    Calls Tryz.prog 77 #[.pointer (some ⟨gd, 0, none⟩), .int .i64 (p : Int)] w fun e w' => e = .returned (.bool x) ∧ ∃ k, w' = w.drewN k := by
  have C1 := Lib.hid (int_at gd p x.toNat b t w hd h)
  clear hd h
  cases x
  · go_enter Tryz.func77, Tryz.ntmps77
    go_wp2_with fail
    refine C1.out.mono ?_
    rintro e w' ⟨rfl, k, rfl⟩
    go_wp2_with fail
    go_ret
    exact ⟨rfl, k, rfl⟩
  · go_enter Tryz.func77, Tryz.ntmps77
    go_wp2_with fail
    refine C1.out.mono ?_
    rintro e w' ⟨rfl, k, rfl⟩
    go_wp2_with fail
    go_ret
    exact ⟨rfl, k, rfl⟩
end
section
open Go.RowKit

theorem byte_info : (Tryz.prog.info? 5).map (fun i => (i.zero, i.size, i.bytes)) = some (some (.int .u8 0), 1, 1) := by kernel_rfl
end
section
open Go.RowKit

def SfAt (w : World) (gs gd p : Nat) : Prop := Blk w gs 121 #[.pointer (some ⟨gd, 0, none⟩), .int .i64 (p : Int)]
theorem SfAt.drewN {w : World} {gs gd p : Nat} (h : SfAt w gs gd p) (k : Nat) : SfAt (w.drewN k) gs gd p := h
theorem wrap64_in (x : Int) (h0 : 0 ≤ x) (h1 : x ≤ 9223372036854775807) : IntKind.i64.wrap x = x := IntWalk.i64_in x (by omega)

set_option maxHeartbeats 400000 in
theorem sf_error (gs gd p : Nat) (f : FileD) (b t : List UInt8) (w : World) (hs : SfAt w gs gd p) (hd : DecAt w gd b t) (h : ItsAt b t p (headIts f)) :
    Calls Tryz.prog 40 #[.pointer (some ⟨gs, 0, none⟩)] w fun e w' => e = .returned (.string f.err) ∧ ∃ k, w' = w.drewN k := by
  have h0 := h 0 _ rfl
  have hl := h0.lt
  have hm := hd.len.1
  have C := Lib.hid (fun k => string_at gd (p + 4 * 0) f.err b t (w.drewN k) hd h0)
  rw [show ((p + 4 * 0 : Nat) : Int) = (p : Int) from by omega] at C
  have c0 : w.cell? ⟨gs, 0, none⟩ = some (.pointer (some ⟨gd, 0, none⟩)) := hs.cell 0
  have c1 : w.cell? ⟨gs, 1, none⟩ = some (.int .i64 (p : Int)) := hs.cell 1
  have hw := wrap64_in ((p : Int)) (by omega) (by omega)
  clear hs hd h h0 hl hm
  generalize f.err = x at C ⊢
  go_enter Tryz.func40, Tryz.ntmps40
  go_wp2_with fail
  go_quiet ((go_at_call 76; exact Calls.quiet_of (C.out _)))
  go_wp2_with fail
  go_ret
  exact ⟨rfl, nq, rfl⟩

set_option maxHeartbeats 400000 in
theorem sf_parseError (gs gd p : Nat) (f : FileD) (b t : List UInt8) (w : World) (hs : SfAt w gs gd p) (hd : DecAt w gd b t) (h : ItsAt b t p (headIts f)) :
    Calls Tryz.prog 41 #[.pointer (some ⟨gs, 0, none⟩)] w fun e w' => e = .returned (.string f.perr) ∧ ∃ k, w' = w.drewN k := by
  have h0 := h 1 _ rfl
  have hl := h0.lt
  have hm := hd.len.1
  have C := Lib.hid (fun k => string_at gd (p + 4 * 1) f.perr b t (w.drewN k) hd h0)
  rw [show ((p + 4 * 1 : Nat) : Int) = (p : Int) + 4 from by omega] at C
  have c0 : w.cell? ⟨gs, 0, none⟩ = some (.pointer (some ⟨gd, 0, none⟩)) := hs.cell 0
  have c1 : w.cell? ⟨gs, 1, none⟩ = some (.int .i64 (p : Int)) := hs.cell 1
  have hw := wrap64_in ((p : Int) + 4) (by omega) (by omega)
  clear hs hd h h0 hl hm
  generalize f.perr = x at C ⊢
  go_enter Tryz.func41, Tryz.ntmps41
  go_wp2_with fail
  go_quiet ((go_at_call 76; exact Calls.quiet_of (C.out _)))
  go_wp2_with fail
  go_ret
  exact ⟨rfl, nq, rfl⟩

set_option maxHeartbeats 400000 in
theorem sf_synopsis (gs gd p : Nat) (f : FileD) (b t : List UInt8) (w : World) (hs : SfAt w gs gd p) (hd : DecAt w gd b t) (h : ItsAt b t p (headIts f)) :
    Calls Tryz.prog 43 #[.pointer (some ⟨gs, 0, none⟩)] w fun e w' => e = .returned (.string f.syn) ∧ ∃ k, w' = w.drewN k := by
  have h0 := h 2 _ rfl
  have hl := h0.lt
  have hm := hd.len.1
  have C := Lib.hid (fun k => string_at gd (p + 4 * 2) f.syn b t (w.drewN k) hd h0)
  rw [show ((p + 4 * 2 : Nat) : Int) = (p : Int) + 8 from by omega] at C
  have c0 : w.cell? ⟨gs, 0, none⟩ = some (.pointer (some ⟨gd, 0, none⟩)) := hs.cell 0
  have c1 : w.cell? ⟨gs, 1, none⟩ = some (.int .i64 (p : Int)) := hs.cell 1
  have hw := wrap64_in ((p : Int) + 8) (by omega) (by omega)
  clear hs hd h h0 hl hm
  generalize f.syn = x at C ⊢
  go_enter Tryz.func43, Tryz.ntmps43
  go_wp2_with fail
  go_quiet ((go_at_call 76; exact Calls.quiet_of (C.out _)))
  go_wp2_with fail
  go_ret
  exact ⟨rfl, nq, rfl⟩

set_option maxHeartbeats 400000 in
theorem sf_name (gs gd p : Nat) (f : FileD) (b t : List UInt8) (w : World) (hs : SfAt w gs gd p) (hd : DecAt w gd b t) (h : ItsAt b t p (headIts f)) :
    Calls Tryz.prog 42 #[.pointer (some ⟨gs, 0, none⟩)] w fun e w' => e = .returned (.string f.name) ∧ ∃ k, w' = w.drewN k := by
  have h0 := h 3 _ rfl
  have hl := h0.lt
  have hm := hd.len.1
  have C := Lib.hid (fun k => string_at gd (p + 4 * 3) f.name b t (w.drewN k) hd h0)
  rw [show ((p + 4 * 3 : Nat) : Int) = (p : Int) + 12 from by omega] at C
  have c0 : w.cell? ⟨gs, 0, none⟩ = some (.pointer (some ⟨gd, 0, none⟩)) := hs.cell 0
  have c1 : w.cell? ⟨gs, 1, none⟩ = some (.int .i64 (p : Int)) := hs.cell 1
  have hw := wrap64_in ((p : Int) + 12) (by omega) (by omega)
  clear hs hd h h0 hl hm
  generalize f.name = x at C ⊢
  go_enter Tryz.func42, Tryz.ntmps42
  go_wp2_with fail
  go_quiet ((go_at_call 76; exact Calls.quiet_of (C.out _)))
  go_wp2_with fail
  go_ret
  exact ⟨rfl, nq, rfl⟩

set_option maxHeartbeats 400000 in
theorem sf_pkgName (gs gd p : Nat) (f : FileD) (b t : List UInt8) (w : World) (hs : SfAt w gs gd p) (hd : DecAt w gd b t) (h : ItsAt b t p (headIts f)) :
    Calls Tryz.prog 44 #[.pointer (some ⟨gs, 0, none⟩)] w fun e w' => e = .returned (.string f.pkg) ∧ ∃ k, w' = w.drewN k := by
  have h0 := h 4 _ rfl
  have hl := h0.lt
  have hm := hd.len.1
  have C := Lib.hid (fun k => string_at gd (p + 4 * 4) f.pkg b t (w.drewN k) hd h0)
  rw [show ((p + 4 * 4 : Nat) : Int) = (p : Int) + 16 from by omega] at C
  have c0 : w.cell? ⟨gs, 0, none⟩ = some (.pointer (some ⟨gd, 0, none⟩)) := hs.cell 0
  have c1 : w.cell? ⟨gs, 1, none⟩ = some (.int .i64 (p : Int)) := hs.cell 1
  have hw := wrap64_in ((p : Int) + 16) (by omega) (by omega)
  clear hs hd h h0 hl hm
  generalize f.pkg = x at C ⊢
  go_enter Tryz.func44, Tryz.ntmps44
  go_wp2_with fail
  go_quiet ((go_at_call 76; exact Calls.quiet_of (C.out _)))
  go_wp2_with fail
  go_ret
  exact ⟨rfl, nq, rfl⟩

set_option maxHeartbeats 400000 in
theorem sf_ignoreFile (gs gd p : Nat) (f : FileD) (b t : List UInt8) (w : World) (hs : SfAt w gs gd p) (hd : DecAt w gd b t) (h : ItsAt b t p (headIts f)) :
    Calls Tryz.prog 45 #[.pointer (some ⟨gs, 0, none⟩)] w fun e w' => e = .returned (.bool f.ign) ∧ ∃ k, w' = w.drewN k := by
  have h0 := h 5 _ rfl
  have hl := h0.lt
  have hm := hd.len.1
  have C := Lib.hid (fun k => bool_at gd (p + 4 * 5) f.ign b t (w.drewN k) hd h0)
  rw [show ((p + 4 * 5 : Nat) : Int) = (p : Int) + 20 from by omega] at C
  have c0 : w.cell? ⟨gs, 0, none⟩ = some (.pointer (some ⟨gd, 0, none⟩)) := hs.cell 0
  have c1 : w.cell? ⟨gs, 1, none⟩ = some (.int .i64 (p : Int)) := hs.cell 1
  have hw := wrap64_in ((p : Int) + 20) (by omega) (by omega)
  clear hs hd h h0 hl hm
  generalize f.ign = x at C ⊢
  go_enter Tryz.func45, Tryz.ntmps45
  go_wp2_with fail
  go_quiet ((go_at_call 77; exact Calls.quiet_of (C.out _)))
  go_wp2_with fail
  go_ret
  exact ⟨rfl, nq, rfl⟩

set_option maxHeartbeats 400000 in
theorem sf_binaryOnly (gs gd p : Nat) (f : FileD) (b t : List UInt8) (w : World) (hs : SfAt w gs gd p) (hd : DecAt w gd b t) (h : ItsAt b t p (headIts f)) :
    Calls Tryz.prog 46 #[.pointer (some ⟨gs, 0, none⟩)] w fun e w' => e = .returned (.bool f.bin) ∧ ∃ k, w' = w.drewN k := by
  have h0 := h 6 _ rfl
  have hl := h0.lt
  have hm := hd.len.1
  have C := Lib.hid (fun k => bool_at gd (p + 4 * 6) f.bin b t (w.drewN k) hd h0)
  rw [show ((p + 4 * 6 : Nat) : Int) = (p : Int) + 24 from by omega] at C
  have c0 : w.cell? ⟨gs, 0, none⟩ = some (.pointer (some ⟨gd, 0, none⟩)) := hs.cell 0
  have c1 : w.cell? ⟨gs, 1, none⟩ = some (.int .i64 (p : Int)) := hs.cell 1
  have hw := wrap64_in ((p : Int) + 24) (by omega) (by omega)
  clear hs hd h h0 hl hm
  generalize f.bin = x at C ⊢
  go_enter Tryz.func46, Tryz.ntmps46
  go_wp2_with fail
  go_quiet ((go_at_call 77; exact Calls.quiet_of (C.out _)))
  go_wp2_with fail
  go_ret
  exact ⟨rfl, nq, rfl⟩

set_option maxHeartbeats 400000 in
theorem sf_cgoDirectives (gs gd p : Nat) (f : FileD) (b t : List UInt8) (w : World) (hs : SfAt w gs gd p) (hd : DecAt w gd b t) (h : ItsAt b t p (headIts f)) :
    Calls Tryz.prog 47 #[.pointer (some ⟨gs, 0, none⟩)] w fun e w' => e = .returned (.string f.cgo) ∧ ∃ k, w' = w.drewN k := by
  have h0 := h 7 _ rfl
  have hl := h0.lt
  have hm := hd.len.1
  have C := Lib.hid (fun k => string_at gd (p + 4 * 7) f.cgo b t (w.drewN k) hd h0)
  rw [show ((p + 4 * 7 : Nat) : Int) = (p : Int) + 28 from by omega] at C
  have c0 : w.cell? ⟨gs, 0, none⟩ = some (.pointer (some ⟨gd, 0, none⟩)) := hs.cell 0
  have c1 : w.cell? ⟨gs, 1, none⟩ = some (.int .i64 (p : Int)) := hs.cell 1
  have hw := wrap64_in ((p : Int) + 28) (by omega) (by omega)
  clear hs hd h h0 hl hm
  generalize f.cgo = x at C ⊢
  go_enter Tryz.func47, Tryz.ntmps47
  go_wp2_with fail
  go_quiet ((go_at_call 76; exact Calls.quiet_of (C.out _)))
  go_wp2_with fail
  go_ret
  exact ⟨rfl, nq, rfl⟩

set_option maxHeartbeats 400000 in
theorem sf_goBuildConstraint (gs gd p : Nat) (f : FileD) (b t : List UInt8) (w : World) (hs : SfAt w gs gd p) (hd : DecAt w gd b t) (h : ItsAt b t p (headIts f)) :
    Calls Tryz.prog 48 #[.pointer (some ⟨gs, 0, none⟩)] w fun e w' => e = .returned (.string f.con) ∧ ∃ k, w' = w.drewN k := by
  have h0 := h 8 _ rfl
  have hl := h0.lt
  have hm := hd.len.1
  have C := Lib.hid (fun k => string_at gd (p + 4 * 8) f.con b t (w.drewN k) hd h0)
  rw [show ((p + 4 * 8 : Nat) : Int) = (p : Int) + 32 from by omega] at C
  have c0 : w.cell? ⟨gs, 0, none⟩ = some (.pointer (some ⟨gd, 0, none⟩)) := hs.cell 0
  have c1 : w.cell? ⟨gs, 1, none⟩ = some (.int .i64 (p : Int)) := hs.cell 1
  have hw := wrap64_in ((p : Int) + 32) (by omega) (by omega)
  clear hs hd h h0 hl hm
  generalize f.con = x at C ⊢
  go_enter Tryz.func48, Tryz.ntmps48
  go_wp2_with fail
  go_quiet ((go_at_call 76; exact Calls.quiet_of (C.out _)))
  go_wp2_with fail
  go_ret
  exact ⟨rfl, nq, rfl⟩
end
section
open Go.RowKit
attribute [local go_sem ↓] Go.wp_at_zero Go.wp_at_succ

def RdAt (w : World) (gr gd p : Nat) : Prop := Blk w gr 149 #[.pointer (some ⟨gd, 0, none⟩), .int .i64 (p : Int)]
/-- The reader has gone on to place q; nothing else that was there has changed. -/
def Rdd (gr gd q : Nat) (w w' : World) : Prop := RdAt w' gr gd q ∧ w.grownBy w' (some gr)
/-- A reader of its own, of a decoder that was there before. -/
structure RdIn (w0 w : World) (gr gd p : Nat) (b t : List UInt8) : Prop where
  dec : DecAt w0 gd b t
  bel : Below w0.heap.size w0 w
  own : w0.heap.size ≤ gr
  at_ : RdAt w gr gd p

theorem only_of_drew {a w : World} {row : Option Nat} (h : a.drew.grownBy w row) : a.grownBy w row := ⟨h.os, h.tape, h.output, h.size, h.block⟩
theorem Rdd.trans {gr gd p q : Nat} {a b c : World} (h : Rdd gr gd p a b) (k : Rdd gr gd q b c) : Rdd gr gd q a c := ⟨k.1, h.2.trans k.2⟩
theorem Rdd.below {B gr gd q : Nat} {a w w' : World} (h : Rdd gr gd q w w') (hb : Below B a w) (hB : B ≤ w.heap.size) (hg : B ≤ gr) : Below B a w' :=
  hb.grown h.2 hB fun k hk => by injection hk with hk; omega
theorem RdIn.step {w0 w w' : World} {gr gd p q : Nat} {b t : List UInt8} (h : RdIn w0 w gr gd p b t) (k : Rdd gr gd q w w') : RdIn w0 w' gr gd q b t :=
  ⟨h.dec, k.below h.bel h.bel.size h.own, h.own, k.1⟩
theorem RdIn.decw {w0 w : World} {gr gd p : Nat} {b t : List UInt8} (h : RdIn w0 w gr gd p b t) : DecAt w gd b t := h.dec.below h.bel
theorem RdIn.drewN {w0 w : World} {gr gd p : Nat} {b t : List UInt8} (h : RdIn w0 w gr gd p b t) (k : Nat) : RdIn w0 (w.drewN k) gr gd p b t :=
  ⟨h.dec, below_dn h.bel k, h.own, h.at_⟩
theorem RdIn.drew {w0 w : World} {gr gd p : Nat} {b t : List UInt8} (h : RdIn w0 w gr gd p b t) : RdIn w0 w.drew gr gd p b t :=
  ⟨h.dec, h.bel.drew, h.own, h.at_⟩
theorem RdIn.alloc {w0 w : World} {gr gd p : Nat} {b t : List UInt8} (h : RdIn w0 w gr gd p b t) (o : Obj) : RdIn w0 (w.alloc o) gr gd p b t :=
  ⟨h.dec, h.bel.alloc h.bel.size o, h.own, Blk.alloc h.at_ o⟩
theorem RdIn.place {w0 w : World} {gr gd p q : Nat} {b t : List UInt8} (h : RdIn w0 w gr gd p b t) (e : p = q) : RdIn w0 w gr gd q b t := e ▸ h
theorem Rdd.of {gr gd p q k : Nat} {w : World} (h : RdAt w gr gd p) : Rdd gr gd q w ((w.drewN k).setCell ⟨gr, 1, none⟩ (.int .i64 (q : Int))) := by
  have hg : w.grownBy (w.drewN k) (some gr) := ⟨rfl, rfl, rfl, Nat.le_refl _, fun _ _ _ => rfl⟩
  exact ⟨Blk.set_ (h : RdAt (w.drewN k) gr gd p) 1 (.int .i64 (q : Int)), hg.trans (grownBy_setCell (w.drewN k) ⟨gr, 1, none⟩ _)⟩

set_option maxHeartbeats 400000 in
theorem readAt_any (gd p : Nat) (w : World) : Calls Tryz.prog 53 #[.pointer (some ⟨gd, 0, none⟩), .int .i64 (p : Int)] w fun e w' => e = .returned (.pointer (some ⟨w.heap.size, 0, none⟩)) ∧ w' = w.alloc (.cells #[.pointer (some ⟨gd, 0, none⟩), .int .i64 (p : Int)] 149) := by
  go_enter Tryz.func53, Tryz.ntmps53
  go_wp2_with fail
  go_ret
  exact ⟨rfl, rfl⟩

set_option maxHeartbeats 400000 in
theorem rd_int (w0 : World) (gr gd p n : Nat) (b t : List UInt8) (w : World) (hr : RdIn w0 w gr gd p b t) (h : ItIs b t p (.n n)) :
    Calls Tryz.prog 56 #[.pointer (some ⟨gr, 0, none⟩)] w fun e w' => e = .returned (.int .i64 (n : Int)) ∧ Rdd gr gd (p + 4) w w' := by
  have hl := h.lt
  have hm := hr.dec.len.1
  have C := Lib.hid (fun k => int_at gd p n b t (w.drewN k) hr.decw h)
  have c0 : w.cell? ⟨gr, 0, none⟩ = some (.pointer (some ⟨gd, 0, none⟩)) := hr.at_.cell 0
  have c1 : w.cell? ⟨gr, 1, none⟩ = some (.int .i64 (p : Int)) := hr.at_.cell 1
  have f1 := hr.at_.frozen 1
  have HA := Lib.hid (fun k => Rdd.of (k := k) (q := p + 4) hr.at_)
  rw [show ((p + 4 : Nat) : Int) = (p : Int) + 4 from by omega] at HA
  clear hr h
  go_enter Tryz.func56, Tryz.ntmps56
  go_wp2_with fail
  go_quiet ((go_at_call 38; exact Calls.quiet_of (C.out _)))
  go_wp2_with fail
  go_ret
  exact ⟨rfl, HA.out nq⟩

set_option maxHeartbeats 1000000 in
theorem rd_string (w0 : World) (gr gd p : Nat) (s : ByteArray) (b t : List UInt8) (w : World) (hr : RdIn w0 w gr gd p b t) (h : ItIs b t p (.s s)) :
    Calls Tryz.prog 55 #[.pointer (some ⟨gr, 0, none⟩)] w fun e w' => e = .returned (.string s) ∧ Rdd gr gd (p + 4) w w' := by
  obtain ⟨off, h1, h2⟩ := h
  have hgr := hr.own
  have C := Lib.hid (rd_int w0 gr gd p off b t w.drew hr.drew h1)
  have T := Lib.hid (fun (W : World) (hW : RdIn w0 W gr gd (p + 4) b t) => text_at gd off s b t W hW.decw h2)
  have ST := Lib.hid (fun (W : World) (hW : Rdd gr gd (p + 4) w.drew W) => hr.drew.step hW)
  have hHeld : w.drew.cell? ⟨gr, 0, none⟩ = some (.pointer (some ⟨gd, 0, none⟩)) := hr.at_.cell 0
  clear hr h1 h2
  go_enter Tryz.func55, Tryz.ntmps55
  go_wp2_with fail
  refine wp_region_m 99 (fun W => W.cell? ⟨gr, 0, none⟩ = some (.pointer (some ⟨gd, 0, none⟩))) (by kernel_rfl) ?_
  refine wpAnyM_take (i := 0) (oi := ⟨some 3, _, _, _, _, _⟩) (v := (.pointer (some ⟨gr, 0, none⟩))) rfl (by kernel_rfl) (by kernel_rfl) (by kernel_rfl) (by kernel_rfl) (by decide) (fun _ _ _ h => h) (by assumption) (Or.inl ⟨by rfl, ?_⟩) ?_
  · intro W hSW
    (try dsimp only at hSW)
    go_simp
  (try go_frame)
  refine wpAnyM_take (i := 1) (oi := ⟨some 4, _, _, _, _, _⟩) (v := (.pointer (some ⟨gr, 0, none⟩))) rfl (by kernel_rfl) (by kernel_rfl) (by kernel_rfl) (by kernel_rfl) (by decide) (fun _ _ _ h => h) (by assumption) (Or.inl ⟨by rfl, ?_⟩) ?_
  · intro W hSW
    (try dsimp only at hSW)
    go_simp
  (try go_frame)
  refine wpAnyM_take (i := 2) (oi := ⟨some 5, _, _, _, _, _⟩) (v := (.pointer (some ⟨gr, 0, none⟩))) rfl (by kernel_rfl) (by kernel_rfl) (by kernel_rfl) (by kernel_rfl) (by decide) (fun _ _ _ h => h) (by assumption) (Or.inl ⟨by rfl, ?_⟩) ?_
  · intro W hSW
    (try dsimp only at hSW)
    go_simp
  (try go_frame)
  refine wpAnyM_take (i := 3) (oi := ⟨some 6, _, _, _, _, _⟩) (v := (.pointer (some ⟨gd, 0, none⟩))) rfl (by kernel_rfl) (by kernel_rfl) (by kernel_rfl) (by kernel_rfl) (by decide) (fun _ _ _ h => h) (by assumption) (Or.inl ⟨by rfl, ?_⟩) ?_
  · intro W hSW
    (try dsimp only at hSW)
    go_simp
  (try go_frame)
  refine wpAnyM_take (i := 4) (oi := ⟨some 7, _, _, _, _, _⟩) (v := (.pointer (some ⟨gr, 0, none⟩))) rfl (by kernel_rfl) (by kernel_rfl) (by kernel_rfl) (by kernel_rfl) (by decide) (fun _ _ _ h => h) (by assumption) (Or.inl ⟨by rfl, ?_⟩) ?_
  · intro W hSW
    (try dsimp only at hSW)
    go_simp
  (try go_frame)
  refine wpAnyM_only (i := 5) (oi := ⟨some 8, _, _, _, _, _⟩) rfl (by kernel_rfl) (fun K hK => ?_)
  go_simp
  refine C.out.mono ?_
  rintro e w1 ⟨rfl, hd⟩
  have hHeld1 : w1.cell? ⟨gr, 0, none⟩ = some (.pointer (some ⟨gd, 0, none⟩)) := hd.1.cell 0
  have HD := Lib.hid hd
  clear hd
  go_wp2_with fail
  refine hK.out _ _ (.inr hHeld1) ?_
  clear hK K
  (try go_frame)
  refine wpAnyM_only (i := 6) (oi := ⟨some 9, _, _, _, _, _⟩) rfl (by kernel_rfl) (fun K hK => ?_)
  go_simp
  refine (T.out _ (ST.out _ HD.out)).mono ?_
  rintro e w2 ⟨rfl, rfl⟩
  go_wp2_with fail
  refine hK.out _ _ (.inr hHeld1) ?_
  clear hK K
  (try go_frame)
  refine wpAnyM_take (i := 7) (oi := ⟨some 2, _, _, _, _, _⟩) (v := (.string s)) rfl (by kernel_rfl) (by kernel_rfl) (by kernel_rfl) (by kernel_rfl) (by decide) (fun _ _ _ h => h) (by assumption) (Or.inl ⟨by rfl, ?_⟩) ?_
  · intro W hSW
    (try dsimp only at hSW)
    go_simp
  (try go_frame)
  refine wpAnyM_done (by kernel_rfl) (NoPanic.normal ?_)
  go_wp2_with fail
  go_ret
  exact ⟨rfl, HD.out.1, only_of_drew HD.out.2⟩
end
section
open Go.RowKit

theorem grown_drop {w w' : World} {o : Obj} {row : Option Nat} (h : (w.alloc o).grownBy w' row) : w.grownBy w' row := (World.grownBy_alloc w o row).trans h
theorem grown_own {w w' : World} {row : Option Nat} {g : Nat} (h : w.grownBy w' row) (j : Nat) (u : Value) (hg : w.heap.size ≤ g) : w.grownBy (w'.setCell ⟨g, j, none⟩ u) row :=
  ⟨h.os, h.tape, h.output, Nat.le_trans h.size (by simp [World.setCell]), fun i hi hne => (Below.heap_setCell w' ⟨g, j, none⟩ u i (by show i ≠ g; omega)).trans (h.block i hi hne)⟩

def posCells (p : PosD) : List Value := [.string p.fn, .int .i64 p.o, .int .i64 p.l, .int .i64 p.c]

set_option maxHeartbeats 1000000 in
theorem rd_pos (w0 : World) (gr gd p : Nat) (d : PosD) (b t : List UInt8) (w : World) (hr : RdIn w0 w gr gd p b t) (hgw : gr < w.heap.size)
    (h0 : ItIs b t p (.s d.fn)) (h1 : ItIs b t (p + 4) (.n d.o.toNat)) (h2 : ItIs b t (p + 4 + 4) (.n d.l.toNat)) (h3 : ItIs b t (p + 4 + 4 + 4) (.n d.c.toNat)) (hd : d.ok) :
    Calls Tryz.prog 79 #[.pointer (some ⟨gr, 0, none⟩)] w fun e w' => e = .returned (.agg (posCells d).toArray) ∧ Rdd gr gd (p + 16) w w' := by
  obtain ⟨_, o0, _, l0, _, c0, _⟩ := hd
  have eo : ((d.o.toNat : Nat) : Int) = d.o := by omega
  have el : ((d.l.toNat : Nat) : Int) = d.l := by omega
  have ec : ((d.c.toNat : Nat) : Int) = d.c := by omega
  obtain ⟨W0, HW0⟩ : ∃ W0, W0 = w.alloc (.cells #[.string { data := #[] }, .int .i64 0, .int .i64 0, .int .i64 0] 88) := ⟨_, rfl⟩
  have r0 : RdIn w0 W0 gr gd p b t := by rw [HW0]; exact hr.alloc _
  have C0 := Lib.hid (rd_string w0 gr gd p d.fn b t W0 r0 h0)
  have C1 := Lib.hid (fun W hW => rd_int w0 gr gd (p + 4) d.o.toNat b t W (r0.step (w' := W) hW) h1)
  have C2 := Lib.hid (fun W hW => rd_int w0 gr gd (p + 4 + 4) d.l.toNat b t W (r0.step (w' := W) hW) h2)
  have C3 := Lib.hid (fun W hW => rd_int w0 gr gd (p + 4 + 4 + 4) d.c.toNat b t W (r0.step (w' := W) hW) h3)
  rw [eo] at C1
  rw [el] at C2
  rw [ec] at C3
  have hG : w.grownBy W0 (some gr) := by rw [HW0]; exact World.grownBy_alloc _ _ _
  have hB : Blk W0 w.heap.size 88 #[.string { data := #[] }, .int .i64 0, .int .i64 0, .int .i64 0] := by rw [HW0]; exact Blk.new _ _ _
  have HG := Lib.hid hG
  have HB := Lib.hid hB
  have HW := Lib.hid HW0
  clear hr h0 h1 h2 h3 r0 hG hB HW0 eo el ec
  obtain ⟨x, xo, xl, xc⟩ := d
  simp only [posCells] at C0 C1 C2 C3 ⊢
  go_enter Tryz.func79, Tryz.ntmps79
  go_wp2_with fail
  rw [show w.alloc (.cells #[.string { data := #[] }, .int .i64 0, .int .i64 0, .int .i64 0] 88) = W0 from HW.out.symm]
  refine C0.out.mono ?_
  rintro e w1 ⟨rfl, d1⟩
  have D1 := Lib.hid d1
  clear d1
  go_wp2_with fail
  refine (C1.out _ D1.out).mono ?_
  rintro e w2 ⟨rfl, d2⟩
  have D2 := Lib.hid (D1.out.trans d2)
  clear d2 D1
  go_wp2_with fail
  refine (C2.out _ D2.out).mono ?_
  rintro e w3 ⟨rfl, d3⟩
  have D3 := Lib.hid (D2.out.trans d3)
  clear d3 D2
  go_wp2_with fail
  refine (C3.out _ D3.out).mono ?_
  rintro e w4 ⟨rfl, d4⟩
  have d4' := D3.out.trans d4
  have hb4 : Blk w4 w.heap.size 88 #[.string { data := #[] }, .int .i64 0, .int .i64 0, .int .i64 0] := HB.out.grown d4'.2 (fun e => by injection e with e; omega)
  have D4 := Lib.hid d4'
  have q0 := hb4.cell 0
  have q1 := hb4.cell 1
  have q2 := hb4.cell 2
  have q3 := hb4.cell 3
  have f0 := hb4.frozen 0
  have f1 := hb4.frozen 1
  have f2 := hb4.frozen 2
  have f3 := hb4.frozen 3
  have HB4 := Lib.hid hb4
  clear d4 d4' D3 hb4
  go_wp2_with fail
  have hB5 := (((HB4.out.set_ 0 (.string x)).set_ 1 (.int .i64 xo)).set_ 2 (.int .i64 xl)).set_ 3 (.int .i64 xc)
  simp only [List.setIfInBounds_toArray, List.set_cons_zero, List.set_cons_succ] at hB5
  refine bodyPost_ret (results_cell 2 88 rfl w.heap.size _ rfl _ Tryz.underlying88 rfl (by kernel_rfl) hB5.range) rfl ?_
  refine ⟨rfl, ?_, grown_own (grown_own (grown_own (grown_own (HG.out.trans D4.out.2) _ _ (Nat.le_refl _)) _ _ (Nat.le_refl _)) _ _ (Nat.le_refl _)) _ _ (Nat.le_refl _)⟩
  exact (((Blk.far D4.out.1 (by show gr ≠ w.heap.size; omega) _).far (by show gr ≠ w.heap.size; omega) _).far (by show gr ≠ w.heap.size; omega) _).far (by show gr ≠ w.heap.size; omega) _
end
section
open Go.RowKit

theorem ret_int {k : IntKind} {a b : Int} (h : a = b) : Ending.returned (.int k a) = .returned (.int k b) := by rw [h]

set_option maxHeartbeats 400000 in
theorem sf_imp (gs gd p : Nat) (f : FileD) (b t : List UInt8) (w : World) (hs : SfAt w gs gd p) (hd : DecAt w gd b t) (h : FileIs b t p f) (hf : f.Ok) :
    Calls Tryz.prog 80 #[.pointer (some ⟨gs, 0, none⟩)] w fun e w' => e = .returned (.int .i64 ((p + 40 + 4 * f.cons.length : Nat) : Int)) ∧ ∃ k, w' = w.drewN k := by
  have h0 := h.1 9 _ rfl
  have hl := h0.lt
  have hm := hd.len.1
  have hc := hf.consL
  have hi := h.2.2.1.1.lt
  have C := Lib.hid (int_at gd (p + 4 * 9) f.cons.length b t w hd h0)
  rw [show ((p + 4 * 9 : Nat) : Int) = (p : Int) + 36 from by omega] at C
  have c0 : w.cell? ⟨gs, 0, none⟩ = some (.pointer (some ⟨gd, 0, none⟩)) := hs.cell 0
  have c1 : w.cell? ⟨gs, 1, none⟩ = some (.int .i64 (p : Int)) := hs.cell 1
  clear hs hd h h0 hf
  generalize f.cons.length = n at C hc hi ⊢
  go_enter Tryz.func80, Tryz.ntmps80
  go_wp2_with fail
  refine C.out.mono ?_
  rintro e w' ⟨rfl, k, rfl⟩
  go_wp2_with fail
  go_ret
  exact ⟨ret_int (by omega), k, rfl⟩

set_option maxHeartbeats 400000 in
theorem sf_emb (gs gd p : Nat) (f : FileD) (b t : List UInt8) (w : World) (hs : SfAt w gs gd p) (hd : DecAt w gd b t) (h : FileIs b t p f) (hf : f.Ok) :
    Calls Tryz.prog 81 #[.pointer (some ⟨gs, 0, none⟩)] w fun e w' => e = .returned (.int .i64 ((p + 44 + 4 * f.cons.length + 20 * f.imps.length : Nat) : Int)) ∧ ∃ k, w' = w.drewN k := by
  have h0 : ItIs b t (p + 40 + 4 * f.cons.length) (.n f.imps.length) := h.2.2.1.1
  have hl := h0.lt
  have hm := hd.len.1
  have hi := hf.impsL
  have hj := h.2.2.2.1.1.lt
  have C0 := Lib.hid (sf_imp gs gd p f b t w hs hd h hf)
  have C := Lib.hid (fun k => int_at gd (p + 40 + 4 * f.cons.length) f.imps.length b t (w.drewN k) hd h0)
  have c0 : w.cell? ⟨gs, 0, none⟩ = some (.pointer (some ⟨gd, 0, none⟩)) := hs.cell 0
  have hE : p + 44 + 4 * f.cons.length + 20 * f.imps.length = p + 40 + 4 * f.cons.length + 4 + f.imps.length * 20 := by omega
  rw [hE] at hj ⊢
  clear hs hd h h0 hf hE
  generalize f.imps.length = n at C hi hj ⊢
  generalize p + 40 + 4 * f.cons.length = q at C C0 hl hj ⊢
  go_enter Tryz.func81, Tryz.ntmps81
  go_wp2_with fail
  refine C0.out.mono ?_
  rintro e w1 ⟨rfl, k, rfl⟩
  go_wp2_with fail
  refine (C.out k).mono ?_
  rintro e w2 ⟨rfl, j, rfl⟩
  go_wp2_with fail
  go_ret
  exact ⟨ret_int (by omega), k + j, rfl⟩

set_option maxHeartbeats 400000 in
theorem sf_dir (gs gd p : Nat) (f : FileD) (b t : List UInt8) (w : World) (hs : SfAt w gs gd p) (hd : DecAt w gd b t) (h : FileIs b t p f) (hf : f.Ok) :
    Calls Tryz.prog 78 #[.pointer (some ⟨gs, 0, none⟩)] w fun e w' => e = .returned (.int .i64 ((p + 48 + 4 * f.cons.length + 20 * f.imps.length + 20 * f.embs.length : Nat) : Int)) ∧ ∃ k, w' = w.drewN k := by
  have h0 : ItIs b t (p + 44 + 4 * f.cons.length + 20 * f.imps.length) (.n f.embs.length) := h.2.2.2.1.1
  have hl := h0.lt
  have hm := hd.len.1
  have hi := hf.embsL
  have hj := h.2.2.2.2.1.lt
  have C0 := Lib.hid (sf_emb gs gd p f b t w hs hd h hf)
  have C := Lib.hid (fun k => int_at gd (p + 44 + 4 * f.cons.length + 20 * f.imps.length) f.embs.length b t (w.drewN k) hd h0)
  have c0 : w.cell? ⟨gs, 0, none⟩ = some (.pointer (some ⟨gd, 0, none⟩)) := hs.cell 0
  have hE : p + 48 + 4 * f.cons.length + 20 * f.imps.length + 20 * f.embs.length = p + 44 + 4 * f.cons.length + 20 * f.imps.length + 4 + f.embs.length * 20 := by omega
  rw [hE] at hj ⊢
  clear hs hd h h0 hf hE
  generalize f.embs.length = n at C hi hj ⊢
  generalize p + 44 + 4 * f.cons.length + 20 * f.imps.length = q at C C0 hl hj ⊢
  go_enter Tryz.func78, Tryz.ntmps78
  go_wp2_with fail
  refine C0.out.mono ?_
  rintro e w1 ⟨rfl, k, rfl⟩
  go_wp2_with fail
  refine (C.out k).mono ?_
  rintro e w2 ⟨rfl, j, rfl⟩
  go_wp2_with fail
  go_ret
  exact ⟨ret_int (by omega), k + j, rfl⟩
end
section
open Go.RowKit

theorem map_take_succ {α : Type} (f : α → Value) (xs : List α) (k : Nat) (hk : k < xs.length) : (xs.take (k + 1)).map f = (xs.take k).map f ++ [f xs[k]] := by
  rw [List.take_add_one, List.getElem?_eq_getElem hk, List.map_append]
  rfl

theorem int_eq {k : IntKind} {a b : Int} (h : a = b) : Value.int k a = .int k b := by rw [h]

set_option maxHeartbeats 1000000 in
theorem sf_cons (gs gd p : Nat) (f : FileD) (b t : List UInt8) (w : World) (hs : SfAt w gs gd p) (hd : DecAt w gd b t) (h : FileIs b t p f) (hf : f.Ok) :
    Calls Tryz.prog 49 #[.pointer (some ⟨gs, 0, none⟩)] w fun e w' => ∃ A c, e = .returned (.slice A f.cons.length c) ∧ w'.ownsRow w.heap.size 9 1 (.slice A f.cons.length c) f.cons.length (f.cons.map Value.string) ∧ Below w.heap.size w w' := by
  obtain ⟨i0, hi0, hz0, hz1, hz2⟩ := info_parts' text_info
  have hm := hd.len.1
  have hc := hf.consL
  have hi := h.2.2.1.1.lt
  have C0 := Lib.hid (fun k => int_at gd (p + 4 * 9) f.cons.length b t (w.drewN k) hd (h.1 9 _ rfl))
  rw [show ((p + 4 * 9 : Nat) : Int) = (p : Int) + 36 from by omega] at C0
  have CS := Lib.hid (fun (W : World) (hW : Below w.heap.size w W) (k : Nat) (hk : k < f.cons.length) => string_at gd (p + 40 + 4 * k) f.cons[k] b t W (hd.below hW) (h.2.1 k _ (List.getElem?_eq_getElem hk)))
  have HS := Lib.hid (fun (W : World) (hW : Below w.heap.size w W) => Blk.below hs hW (Blk.lt hs))
  have HMK := Lib.hid (fun (W : World) => run_make (P := Tryz.prog) W 40 9 i0 _ Tryz.underlying40 hi0 hz0 .i64 .i64 (f.cons.length : Int) (f.cons.length : Int) (by omega) (Int.le_refl _) (by rw [hz2]; omega) (by omega))
  have c0 : w.cell? ⟨gs, 0, none⟩ = some (.pointer (some ⟨gd, 0, none⟩)) := Blk.cell hs 0
  have c1 : w.cell? ⟨gs, 1, none⟩ = some (.int .i64 (p : Int)) := Blk.cell hs 1
  clear hs hd h hf
  generalize f.cons = ss at *
  rw [hz1, Int.toNat_natCast] at HMK
  have hmk := HMK.out
  clear HMK
  go_enter Tryz.func49, Tryz.ntmps49
  go_wp2_with fail
  refine (C0.out 0).mono ?_
  rintro e w1 ⟨rfl, k, rfl⟩
  go_wp2_with fail
  have hF0 : Fills ((w.drewN k).alloc (.cells (madeCells #[.string ByteArray.empty] ss.length) 9)) w.heap.size 9 ss.length [] := by
    have := Fills.made (w.drewN k) (madeCells #[.string ByteArray.empty] ss.length) 9
    rw [size_madeCells] at this
    exact this
  have HF0 := Lib.hid hF0
  clear hF0 hmk c0 c1
  go_loopw [3, 6] (fun pos i wr => ∃ k : Nat, k ≤ ss.length ∧ pos = .int .i64 ((p + 40 + 4 * k : Nat) : Int) ∧ i = .int .i64 k ∧ Fills wr w.heap.size 9 ss.length ((ss.take k).map Value.string) ∧ Below w.heap.size w wr) (fun _ i _ => ss.length - (intOf i).toNat)
  case atStart => exact ⟨0, Nat.zero_le _, int_eq (by omega), rfl, HF0.out, (below_dn (Below.refl _ _) k).alloc (Nat.le_refl _) _⟩
  case round =>
    clear HF0
    obtain ⟨k, hk, rfl, rfl, hF, hB⟩ := hrel
    have hsz := hB.size
    by_cases hlt : k < ss.length
    · have C := Lib.hid (CS.out wr hB k hlt)
      have hq : p + 40 + 4 * k + 4 ≤ b.length := by omega
      have c0 : wr.cell? ⟨gs, 0, none⟩ = some (.pointer (some ⟨gd, 0, none⟩)) := Blk.cell (HS.out wr hB) 0
      have hkz : (0 : Int) ≤ (k : Int) := by omega
      have hkl : (k : Int) < (ss.length : Int) := by omega
      obtain ⟨u, hc, hfz⟩ := hF.cell k hlt
      have hP := hF.put (by rw [List.length_map, List.length_take]; omega) (.string ss[k])
      rw [List.length_map, List.length_take, Nat.min_eq_left (by omega), ← map_take_succ Value.string ss k hlt] at hP
      have hE : ((p + 40 + 4 * (k + 1) : Nat) : Int) = ((p + 40 + 4 * k : Nat) : Int) + 4 := by omega
      have HE := Lib.hid hE
      have HP := Lib.hid hP
      have HB := Lib.hid hB
      clear hE hP hF hB
      generalize p + 40 + 4 * k = q at *
      go_wp2_with fail
      refine C.out.mono ?_
      rintro e w2 ⟨rfl, n2, rfl⟩
      go_wp2_with fail
      go_roundw
      case rel => exact ⟨k + 1, by omega, int_eq (by have := HE.out; omega), by go_num, HP.out, (below_dn HB.out _).setCell (Nat.le_refl _) _⟩
      case measure => simp [intOf]; omega
    · have hkl : k = ss.length := by omega
      subst hkl
      rw [List.take_length] at hF
      have HO := Lib.hid (Fills.own (n := ss.length) (size := 1) (by rw [Nat.mul_one]; exact hF) (by simp) (Nat.le_refl _) (by unfold maxLen; omega))
      clear hF
      go_wp2_with fail
      go_ret
      exact ⟨_, _, rfl, HO.out, hB⟩
end
section
open Go.RowKit

theorem rimp_info : (Tryz.prog.info? 92).map (fun i => (i.zero, i.size, i.bytes)) = some (some (.agg #[.string ByteArray.empty, .string ByteArray.empty, .int .i64 0, .int .i64 0, .int .i64 0]), 5, 56) := by kernel_rfl
theorem emb_info : (Tryz.prog.info? 94).map (fun i => (i.zero, i.size, i.bytes)) = some (some (.agg #[.string ByteArray.empty, .string ByteArray.empty, .int .i64 0, .int .i64 0, .int .i64 0]), 5, 56) := by kernel_rfl

theorem Blk.sets_far {g b : Nat} {t : TypeId} {cs : Array Value} (hne : g ≠ b) : ∀ (us : List Value) (o : Nat) (w : World), Blk w g t cs → Blk (w.setCells b o us) g t cs
  | [], _, _, h => h
  | u :: us, o, w, h => Blk.sets_far hne us (o + 1) _ (h.far (by exact hne) u)
theorem RdIn.sets {w0 w : World} {gr gd p g : Nat} {b t : List UInt8} (h : RdIn w0 w gr gd p b t) (hne : gr ≠ g) (hg : w0.heap.size ≤ g) (o : Nat) (us : List Value) : RdIn w0 (w.setCells g o us) gr gd p b t :=
  ⟨h.dec, below_setCells hg us o w h.bel, h.own, Blk.sets_far hne us o w h.at_⟩

/-- What a round of a list with places reads. -/
def DirAt (b t : List UInt8) (q : Nat) (d : DirD) : Prop := ItIs b t q (.s d.text) ∧ ItIs b t (q + 4) (.s d.at_.fn) ∧ ItIs b t (q + 4 + 4) (.n d.at_.o.toNat) ∧ ItIs b t (q + 4 + 4 + 4) (.n d.at_.l.toNat) ∧ ItIs b t (q + 4 + 4 + 4 + 4) (.n d.at_.c.toNat)
theorem DirsIs.at_ {b t : List UInt8} {p : Nat} {ds : List DirD} (h : DirsIs b t p ds) (k : Nat) (hk : k < ds.length) : DirAt b t (p + 4 + 20 * k) ds[k] := by
  have h0 := h.2 k _ (List.getElem?_eq_getElem hk)
  exact ⟨h0 0 _ rfl, h0 1 _ rfl, h0 2 _ rfl, h0 3 _ rfl, h0 4 _ rfl⟩

set_option maxHeartbeats 2000000 in
set_option maxRecDepth 100000 in
theorem sf_imports (gs gd p : Nat) (f : FileD) (b t : List UInt8) (w : World) (hs : SfAt w gs gd p) (hd : DecAt w gd b t) (h : FileIs b t p f) (hf : f.Ok) :
    Calls Tryz.prog 51 #[.pointer (some ⟨gs, 0, none⟩)] w fun e w' => ∃ A c, e = .returned (.slice A f.imps.length c) ∧ w'.ownsRow w.heap.size 92 5 (.slice A f.imps.length c) f.imps.length (f.imps.flatMap dirCells) ∧ Below w.heap.size w w' := by
  obtain ⟨i0, hi0, hz0, hz1, hz2⟩ := info_parts' rimp_info
  have hm := hd.len.1
  have hc := hf.impsL
  have hds := h.2.2.1
  have hok := hf.imps
  have C0 := Lib.hid (sf_imp gs gd p f b t w hs hd h hf)
  have c0 : w.cell? ⟨gs, 0, none⟩ = some (.pointer (some ⟨gd, 0, none⟩)) := Blk.cell hs 0
  generalize p + 40 + 4 * f.cons.length = q at hds C0
  have hl := hds.1.lt
  have CI := Lib.hid (fun (W : World) (gr : Nat) (hr : RdIn w W gr gd q b t) => rd_int w gr gd q f.imps.length b t W hr hds.1)
  clear hs h hf
  generalize f.imps = ds at *
  have CS := Lib.hid (fun (W : World) (gr k : Nat) (hk : k < ds.length) (hr : RdIn w W gr gd (q + 4 + 20 * k) b t) => rd_string w gr gd (q + 4 + 20 * k) ds[k].text b t W hr (hds.at_ k hk).1)
  have CP := Lib.hid (fun (W : World) (gr k : Nat) (hk : k < ds.length) (hgw : gr < W.heap.size) (hr : RdIn w W gr gd (q + 4 + 20 * k + 4) b t) => rd_pos w gr gd (q + 4 + 20 * k + 4) ds[k].at_ b t W hr hgw (hds.at_ k hk).2.1 (hds.at_ k hk).2.2.1 (hds.at_ k hk).2.2.2.1 (hds.at_ k hk).2.2.2.2 (hok _ (List.getElem_mem hk)).2)
  have HMK := Lib.hid (fun (W : World) => run_make (P := Tryz.prog) W 83 92 i0 _ Tryz.underlying83 hi0 hz0 .i64 .i64 (ds.length : Int) (ds.length : Int) (by omega) (Int.le_refl _) (by rw [hz2]; omega) (by omega))
  have HD := Lib.hid hd
  clear hd hds hok
  rw [hz1, Int.toNat_natCast] at HMK
  have hmk := HMK.out
  clear HMK
  go_enter Tryz.func51, Tryz.ntmps51
  go_wp2_with fail
  refine C0.out.mono ?_
  rintro e w1 ⟨rfl, k, rfl⟩
  go_wp2_with fail
  refine (readAt_any gd q _).mono ?_
  rintro e w1 ⟨rfl, hw1⟩
  obtain ⟨gr, hgr⟩ : ∃ gr, gr = w.heap.size := ⟨_, rfl⟩
  rw [show (w.drewN k).heap.size = gr from hgr.symm]
  have R1 : RdIn w w1 gr gd q b t := by
    rw [hw1, hgr]
    exact ⟨HD.out, (below_dn (Below.refl _ _) k).alloc (Nat.le_refl _) _, Nat.le_refl _, Blk.new (w.drewN k) _ _⟩
  have hgr1 : gr < w1.heap.size := by rw [hw1, hgr]; simp
  have HR1 := Lib.hid R1
  have HGR := Lib.hid hgr
  clear hw1 R1 hgr
  go_wp2_with fail
  refine (CI.out _ _ HR1.out).mono ?_
  rintro e w2 ⟨rfl, d2⟩
  have R2 := Lib.hid (HR1.out.step d2)
  have hgr2 : gr < w2.heap.size := Nat.lt_of_lt_of_le hgr1 d2.2.size
  clear d2 HR1 hgr1
  go_wp2_with fail
  have hF0 : Fills (w2.alloc (.cells (madeCells #[.string ByteArray.empty, .string ByteArray.empty, .int .i64 0, .int .i64 0, .int .i64 0] (ds.length * 5)) 92)) w2.heap.size 92 (ds.length * 5) [] := by
    have := Fills.made w2 (madeCells #[.string ByteArray.empty, .string ByteArray.empty, .int .i64 0, .int .i64 0, .int .i64 0] (ds.length * 5)) 92
    rw [size_madeCells] at this
    exact this
  have HF0 := Lib.hid hF0
  clear hF0 hmk c0 C0 CI
  go_loopw [7] (fun i wr => ∃ k : Nat, k ≤ ds.length ∧ i = .int .i64 k ∧ RdIn w wr gr gd (q + 4 + 20 * k) b t ∧ Fills wr w2.heap.size 92 (ds.length * 5) ((ds.take k).flatMap dirCells)) (fun i _ => ds.length - (intOf i).toNat)
  case atStart => exact ⟨0, Nat.zero_le _, rfl, R2.out.alloc _, HF0.out⟩
  case round =>
    clear HF0
    obtain ⟨k, hk, rfl, hR, hF⟩ := hrel
    by_cases hlt : k < ds.length
    · have hgr3 : gr < wr.heap.size := Nat.lt_trans hgr2 hF.lt
      have C1 := Lib.hid (CS.out wr gr k hlt hR)
      have C2 := Lib.hid (fun W (d : Rdd gr gd (q + 4 + 20 * k + 4) wr W) => CP.out W gr k hlt (Nat.lt_of_lt_of_le hgr3 d.2.size) (hR.step d))
      have hsn := flat_snoc ds k hlt
      have hkz : (0 : Int) ≤ (k : Int) := by omega
      have hkl : (k : Int) < (ds.length : Int) := by omega
      have hxl : ((ds.take k).flatMap dirCells).length = k * 5 := by rw [flat_len, List.length_take, Nat.min_eq_left (by omega)]
      have HSN := Lib.hid hsn
      have HXL := Lib.hid hxl
      have HF := Lib.hid hF
      have HR := Lib.hid hR
      clear hsn hxl hF hR
      generalize ds[k] = d at *
      obtain ⟨x, ⟨fn, po, pl, pc⟩⟩ := d
      simp only [posCells] at C2
      go_wp2_with fail
      refine C1.out.mono ?_
      rintro e w3 ⟨rfl, d3⟩
      have D3 := Lib.hid d3
      clear d3
      go_wp2_with fail
      refine (C2.out _ D3.out).mono ?_
      rintro e w4 ⟨rfl, d4⟩
      have d5 := D3.out.trans d4
      have hF4 := HF.out.grown d5.2 (fun e => by injection e with e; omega)
      have hR4 := (HR.out.step d5).place (show q + 4 + 20 * k + 4 + 16 = q + 4 + 20 * (k + 1) by omega)
      have hth := hF4.there (k * 5) 5 (by omega)
      have HF4 := Lib.hid hF4
      have HR4 := Lib.hid hR4
      have HTH := Lib.hid hth
      clear d4 d5 D3 hF4 hR4 hth HF HR
      go_wp2_with (refine wpList_store_mid (op := ⟨none, _, _, _, _, _⟩) rfl 92 (.tmp 32) (.tmp 31) rfl w2.heap.size (k * 5) #[.string x, .string fn, .int .i64 po, .int .i64 pl, .int .i64 pc] rfl rfl HTH.out (by kernel_rfl) (all_oneCell_toArray (dirs_one ⟨x, ⟨fn, po, pl, pc⟩⟩)) ?_)
      have hp := Fills.puts (dirCells ⟨x, ⟨fn, po, pl, pc⟩⟩) _ _ HF4.out (by rw [HXL.out]; show k * 5 + 5 ≤ _; omega)
      rw [HXL.out, ← HSN.out] at hp
      have HP := Lib.hid hp
      clear hp
      go_roundw
      case rel => exact ⟨k + 1, by omega, by go_num, HR4.out.sets (by omega) (by have := HGR.out; omega) _ _, HP.out⟩
      case measure => simp [intOf]; omega
    · have hkl : k = ds.length := by omega
      subst hkl
      rw [List.take_length] at hF
      have HO := Lib.hid (hF.own (base := w.heap.size) (by rw [flat_len]) (by have := HGR.out; omega) (by unfold maxLen; omega))
      have HB := Lib.hid hR.bel
      clear hF hR
      go_wp2_with fail
      go_ret
      exact ⟨_, _, rfl, HO.out, HB.out⟩
set_option maxHeartbeats 2000000 in
set_option maxRecDepth 100000 in
theorem sf_embeds (gs gd p : Nat) (f : FileD) (b t : List UInt8) (w : World) (hs : SfAt w gs gd p) (hd : DecAt w gd b t) (h : FileIs b t p f) (hf : f.Ok) :
    Calls Tryz.prog 52 #[.pointer (some ⟨gs, 0, none⟩)] w fun e w' => ∃ A c, e = .returned (.slice A f.embs.length c) ∧ w'.ownsRow w.heap.size 94 5 (.slice A f.embs.length c) f.embs.length (f.embs.flatMap dirCells) ∧ Below w.heap.size w w' := by
  obtain ⟨i0, hi0, hz0, hz1, hz2⟩ := info_parts' emb_info
  have hm := hd.len.1
  have hc := hf.embsL
  have hds := h.2.2.2.1
  have hok := hf.embs
  have C0 := Lib.hid (sf_emb gs gd p f b t w hs hd h hf)
  have c0 : w.cell? ⟨gs, 0, none⟩ = some (.pointer (some ⟨gd, 0, none⟩)) := Blk.cell hs 0
  generalize p + 44 + 4 * f.cons.length + 20 * f.imps.length = q at hds C0
  have hl := hds.1.lt
  have CI := Lib.hid (fun (W : World) (gr : Nat) (hr : RdIn w W gr gd q b t) => rd_int w gr gd q f.embs.length b t W hr hds.1)
  clear hs h hf
  generalize f.embs = ds at *
  have CS := Lib.hid (fun (W : World) (gr k : Nat) (hk : k < ds.length) (hr : RdIn w W gr gd (q + 4 + 20 * k) b t) => rd_string w gr gd (q + 4 + 20 * k) ds[k].text b t W hr (hds.at_ k hk).1)
  have CP := Lib.hid (fun (W : World) (gr k : Nat) (hk : k < ds.length) (hgw : gr < W.heap.size) (hr : RdIn w W gr gd (q + 4 + 20 * k + 4) b t) => rd_pos w gr gd (q + 4 + 20 * k + 4) ds[k].at_ b t W hr hgw (hds.at_ k hk).2.1 (hds.at_ k hk).2.2.1 (hds.at_ k hk).2.2.2.1 (hds.at_ k hk).2.2.2.2 (hok _ (List.getElem_mem hk)).2)
  have HMK := Lib.hid (fun (W : World) => run_make (P := Tryz.prog) W 84 94 i0 _ Tryz.underlying84 hi0 hz0 .i64 .i64 (ds.length : Int) (ds.length : Int) (by omega) (Int.le_refl _) (by rw [hz2]; omega) (by omega))
  have HD := Lib.hid hd
  clear hd hds hok
  rw [hz1, Int.toNat_natCast] at HMK
  have hmk := HMK.out
  clear HMK
  go_enter Tryz.func52, Tryz.ntmps52
  go_wp2_with fail
  refine C0.out.mono ?_
  rintro e w1 ⟨rfl, k, rfl⟩
  go_wp2_with fail
  refine (readAt_any gd q _).mono ?_
  rintro e w1 ⟨rfl, hw1⟩
  obtain ⟨gr, hgr⟩ : ∃ gr, gr = w.heap.size := ⟨_, rfl⟩
  rw [show (w.drewN k).heap.size = gr from hgr.symm]
  have R1 : RdIn w w1 gr gd q b t := by
    rw [hw1, hgr]
    exact ⟨HD.out, (below_dn (Below.refl _ _) k).alloc (Nat.le_refl _) _, Nat.le_refl _, Blk.new (w.drewN k) _ _⟩
  have hgr1 : gr < w1.heap.size := by rw [hw1, hgr]; simp
  have HR1 := Lib.hid R1
  have HGR := Lib.hid hgr
  clear hw1 R1 hgr
  go_wp2_with fail
  refine (CI.out _ _ HR1.out).mono ?_
  rintro e w2 ⟨rfl, d2⟩
  have R2 := Lib.hid (HR1.out.step d2)
  have hgr2 : gr < w2.heap.size := Nat.lt_of_lt_of_le hgr1 d2.2.size
  clear d2 HR1 hgr1
  go_wp2_with fail
  have hF0 : Fills (w2.alloc (.cells (madeCells #[.string ByteArray.empty, .string ByteArray.empty, .int .i64 0, .int .i64 0, .int .i64 0] (ds.length * 5)) 94)) w2.heap.size 94 (ds.length * 5) [] := by
    have := Fills.made w2 (madeCells #[.string ByteArray.empty, .string ByteArray.empty, .int .i64 0, .int .i64 0, .int .i64 0] (ds.length * 5)) 94
    rw [size_madeCells] at this
    exact this
  have HF0 := Lib.hid hF0
  clear hF0 hmk c0 C0 CI
  go_loopw [7, 22] (fun _ i wr => ∃ k : Nat, k ≤ ds.length ∧ i = .int .i64 k ∧ RdIn w wr gr gd (q + 4 + 20 * k) b t ∧ Fills wr w2.heap.size 94 (ds.length * 5) ((ds.take k).flatMap dirCells)) (fun _ i _ => ds.length - (intOf i).toNat)
  case atStart => exact ⟨0, Nat.zero_le _, rfl, R2.out.alloc _, HF0.out⟩
  case round =>
    clear HF0
    obtain ⟨k, hk, rfl, hR, hF⟩ := hrel
    by_cases hlt : k < ds.length
    · have hgr3 : gr < wr.heap.size := Nat.lt_trans hgr2 hF.lt
      have C1 := Lib.hid (CS.out wr gr k hlt hR)
      have C2 := Lib.hid (fun W (d : Rdd gr gd (q + 4 + 20 * k + 4) wr W) => CP.out W gr k hlt (Nat.lt_of_lt_of_le hgr3 d.2.size) (hR.step d))
      have hsn := flat_snoc ds k hlt
      have hkz : (0 : Int) ≤ (k : Int) := by omega
      have hkl : (k : Int) < (ds.length : Int) := by omega
      have hxl : ((ds.take k).flatMap dirCells).length = k * 5 := by rw [flat_len, List.length_take, Nat.min_eq_left (by omega)]
      have HSN := Lib.hid hsn
      have HXL := Lib.hid hxl
      have HF := Lib.hid hF
      have HR := Lib.hid hR
      clear hsn hxl hF hR
      generalize ds[k] = d at *
      obtain ⟨x, ⟨fn, po, pl, pc⟩⟩ := d
      simp only [posCells] at C2
      go_wp2_with fail
      refine C1.out.mono ?_
      rintro e w3 ⟨rfl, d3⟩
      have D3 := Lib.hid d3
      clear d3
      go_wp2_with fail
      refine (C2.out _ D3.out).mono ?_
      rintro e w4 ⟨rfl, d4⟩
      have d5 := D3.out.trans d4
      have hF4 := HF.out.grown d5.2 (fun e => by injection e with e; omega)
      have hR4 := (HR.out.step d5).place (show q + 4 + 20 * k + 4 + 16 = q + 4 + 20 * (k + 1) by omega)
      have hth := hF4.there (k * 5) 5 (by omega)
      have HF4 := Lib.hid hF4
      have HR4 := Lib.hid hR4
      have HTH := Lib.hid hth
      clear d4 d5 D3 hF4 hR4 hth HF HR
      go_wp2_with (refine wpList_store_mid (op := ⟨none, _, _, _, _, _⟩) rfl 94 (.tmp 32) (.tmp 31) rfl w2.heap.size (k * 5) #[.string x, .string fn, .int .i64 po, .int .i64 pl, .int .i64 pc] rfl rfl HTH.out (by kernel_rfl) (all_oneCell_toArray (dirs_one ⟨x, ⟨fn, po, pl, pc⟩⟩)) ?_)
      have hp := Fills.puts (dirCells ⟨x, ⟨fn, po, pl, pc⟩⟩) _ _ HF4.out (by rw [HXL.out]; show k * 5 + 5 ≤ _; omega)
      rw [HXL.out, ← HSN.out] at hp
      have HP := Lib.hid hp
      clear hp
      go_roundw
      case rel => exact ⟨k + 1, by omega, by go_num, HR4.out.sets (by omega) (by have := HGR.out; omega) _ _, HP.out⟩
      case measure => simp [intOf]; omega
    · have hkl : k = ds.length := by omega
      subst hkl
      rw [List.take_length] at hF
      have HO := Lib.hid (hF.own (base := w.heap.size) (by rw [flat_len]) (by have := HGR.out; omega) (by unfold maxLen; omega))
      have HB := Lib.hid hR.bel
      clear hF hR
      go_wp2_with fail
      go_ret
      exact ⟨_, _, rfl, HO.out, HB.out⟩
set_option maxHeartbeats 2000000 in
set_option maxRecDepth 100000 in
theorem sf_directives (gs gd p : Nat) (f : FileD) (b t : List UInt8) (w : World) (hs : SfAt w gs gd p) (hd : DecAt w gd b t) (h : FileIs b t p f) (hf : f.Ok) :
    Calls Tryz.prog 50 #[.pointer (some ⟨gs, 0, none⟩)] w fun e w' => ∃ A c, e = .returned (.slice A f.dirs.length c) ∧ w'.ownsRow w.heap.size 90 5 (.slice A f.dirs.length c) f.dirs.length (f.dirs.flatMap dirCells) ∧ Below w.heap.size w w' := by
  obtain ⟨i0, hi0, hz0, hz1, hz2⟩ := info_parts' dir_info
  have hm := hd.len.1
  have hc := hf.dirsL
  have hds := h.2.2.2.2
  have hok := hf.dirs
  have C0 := Lib.hid (sf_dir gs gd p f b t w hs hd h hf)
  have c0 : w.cell? ⟨gs, 0, none⟩ = some (.pointer (some ⟨gd, 0, none⟩)) := Blk.cell hs 0
  generalize p + 48 + 4 * f.cons.length + 20 * f.imps.length + 20 * f.embs.length = q at hds C0
  have hl := hds.1.lt
  have CI := Lib.hid (fun (W : World) (gr : Nat) (hr : RdIn w W gr gd q b t) => rd_int w gr gd q f.dirs.length b t W hr hds.1)
  clear hs h hf
  generalize f.dirs = ds at *
  have CS := Lib.hid (fun (W : World) (gr k : Nat) (hk : k < ds.length) (hr : RdIn w W gr gd (q + 4 + 20 * k) b t) => rd_string w gr gd (q + 4 + 20 * k) ds[k].text b t W hr (hds.at_ k hk).1)
  have CP := Lib.hid (fun (W : World) (gr k : Nat) (hk : k < ds.length) (hgw : gr < W.heap.size) (hr : RdIn w W gr gd (q + 4 + 20 * k + 4) b t) => rd_pos w gr gd (q + 4 + 20 * k + 4) ds[k].at_ b t W hr hgw (hds.at_ k hk).2.1 (hds.at_ k hk).2.2.1 (hds.at_ k hk).2.2.2.1 (hds.at_ k hk).2.2.2.2 (hok _ (List.getElem_mem hk)).2)
  have HMK := Lib.hid (fun (W : World) => run_make (P := Tryz.prog) W 54 90 i0 _ Tryz.underlying54 hi0 hz0 .i64 .i64 (ds.length : Int) (ds.length : Int) (by omega) (Int.le_refl _) (by rw [hz2]; omega) (by omega))
  have HD := Lib.hid hd
  clear hd hds hok
  rw [hz1, Int.toNat_natCast] at HMK
  have hmk := HMK.out
  clear HMK
  go_enter Tryz.func50, Tryz.ntmps50
  go_wp2_with fail
  refine C0.out.mono ?_
  rintro e w1 ⟨rfl, k, rfl⟩
  go_wp2_with fail
  refine (readAt_any gd q _).mono ?_
  rintro e w1 ⟨rfl, hw1⟩
  obtain ⟨gr, hgr⟩ : ∃ gr, gr = w.heap.size := ⟨_, rfl⟩
  rw [show (w.drewN k).heap.size = gr from hgr.symm]
  have R1 : RdIn w w1 gr gd q b t := by
    rw [hw1, hgr]
    exact ⟨HD.out, (below_dn (Below.refl _ _) k).alloc (Nat.le_refl _) _, Nat.le_refl _, Blk.new (w.drewN k) _ _⟩
  have hgr1 : gr < w1.heap.size := by rw [hw1, hgr]; simp
  have HR1 := Lib.hid R1
  have HGR := Lib.hid hgr
  clear hw1 R1 hgr
  go_wp2_with fail
  refine (CI.out _ _ HR1.out).mono ?_
  rintro e w2 ⟨rfl, d2⟩
  have R2 := Lib.hid (HR1.out.step d2)
  have hgr2 : gr < w2.heap.size := Nat.lt_of_lt_of_le hgr1 d2.2.size
  clear d2 HR1 hgr1
  go_wp2_with fail
  have hF0 : Fills (w2.alloc (.cells (madeCells #[.string ByteArray.empty, .string ByteArray.empty, .int .i64 0, .int .i64 0, .int .i64 0] (ds.length * 5)) 90)) w2.heap.size 90 (ds.length * 5) [] := by
    have := Fills.made w2 (madeCells #[.string ByteArray.empty, .string ByteArray.empty, .int .i64 0, .int .i64 0, .int .i64 0] (ds.length * 5)) 90
    rw [size_madeCells] at this
    exact this
  have HF0 := Lib.hid hF0
  clear hF0 hmk c0 C0 CI
  go_loopw [7, 22] (fun _ i wr => ∃ k : Nat, k ≤ ds.length ∧ i = .int .i64 k ∧ RdIn w wr gr gd (q + 4 + 20 * k) b t ∧ Fills wr w2.heap.size 90 (ds.length * 5) ((ds.take k).flatMap dirCells)) (fun _ i _ => ds.length - (intOf i).toNat)
  case atStart => exact ⟨0, Nat.zero_le _, rfl, R2.out.alloc _, HF0.out⟩
  case round =>
    clear HF0
    obtain ⟨k, hk, rfl, hR, hF⟩ := hrel
    by_cases hlt : k < ds.length
    · have hgr3 : gr < wr.heap.size := Nat.lt_trans hgr2 hF.lt
      have C1 := Lib.hid (CS.out wr gr k hlt hR)
      have C2 := Lib.hid (fun W (d : Rdd gr gd (q + 4 + 20 * k + 4) wr W) => CP.out W gr k hlt (Nat.lt_of_lt_of_le hgr3 d.2.size) (hR.step d))
      have hsn := flat_snoc ds k hlt
      have hkz : (0 : Int) ≤ (k : Int) := by omega
      have hkl : (k : Int) < (ds.length : Int) := by omega
      have hxl : ((ds.take k).flatMap dirCells).length = k * 5 := by rw [flat_len, List.length_take, Nat.min_eq_left (by omega)]
      have HSN := Lib.hid hsn
      have HXL := Lib.hid hxl
      have HF := Lib.hid hF
      have HR := Lib.hid hR
      clear hsn hxl hF hR
      generalize ds[k] = d at *
      obtain ⟨x, ⟨fn, po, pl, pc⟩⟩ := d
      simp only [posCells] at C2
      go_wp2_with fail
      refine C1.out.mono ?_
      rintro e w3 ⟨rfl, d3⟩
      have D3 := Lib.hid d3
      clear d3
      go_wp2_with fail
      refine (C2.out _ D3.out).mono ?_
      rintro e w4 ⟨rfl, d4⟩
      have d5 := D3.out.trans d4
      have hF4 := HF.out.grown d5.2 (fun e => by injection e with e; omega)
      have hR4 := (HR.out.step d5).place (show q + 4 + 20 * k + 4 + 16 = q + 4 + 20 * (k + 1) by omega)
      have hth := hF4.there (k * 5) 5 (by omega)
      have HF4 := Lib.hid hF4
      have HR4 := Lib.hid hR4
      have HTH := Lib.hid hth
      clear d4 d5 D3 hF4 hR4 hth HF HR
      go_wp2_with (refine wpList_store_mid (op := ⟨none, _, _, _, _, _⟩) rfl 90 (.tmp 32) (.tmp 31) rfl w2.heap.size (k * 5) #[.string x, .string fn, .int .i64 po, .int .i64 pl, .int .i64 pc] rfl rfl HTH.out (by kernel_rfl) (all_oneCell_toArray (dirs_one ⟨x, ⟨fn, po, pl, pc⟩⟩)) ?_)
      have hp := Fills.puts (dirCells ⟨x, ⟨fn, po, pl, pc⟩⟩) _ _ HF4.out (by rw [HXL.out]; show k * 5 + 5 ≤ _; omega)
      rw [HXL.out, ← HSN.out] at hp
      have HP := Lib.hid hp
      clear hp
      go_roundw
      case rel => exact ⟨k + 1, by omega, by go_num, HR4.out.sets (by omega) (by have := HGR.out; omega) _ _, HP.out⟩
      case measure => simp [intOf]; omega
    · have hkl : k = ds.length := by omega
      subst hkl
      rw [List.take_length] at hF
      have HO := Lib.hid (hF.own (base := w.heap.size) (by rw [flat_len]) (by have := HGR.out; omega) (by unfold maxLen; omega))
      have HB := Lib.hid hR.bel
      clear hF hR
      go_wp2_with fail
      go_ret
      exact ⟨_, _, rfl, HO.out, HB.out⟩
end
end Go.Proofs.YtanfimeajalffaaGreatDoor
