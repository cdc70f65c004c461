/-
  The decoder in memory: numbers and texts of an index, read. Conditions: what stands at the place (IntIs, TextAt).
-/
import Derived.Test.YtanfimeajalffaaDoorInt
import Derived.Test.YtanfimeajalffaaDoorStr
import Derived.Test.YtanfimeajalffaaDoorLayInj
import Derived.Test.YtanfimeajalffaaDoorTyped
namespace Go.Proofs.YtanfimeajalffaaDoor
open Go.RowKit

theorem cell_lt {w : World} {p : Addr} {u : Value} (h : w.cell? p = some u) : p.block < w.heap.size := World.block_lt_of_cell? w p h
theorem BS.below {w w' : World} {v : Value} {l : List UInt8} (h : BS w v l) (hb : Below w.heap.size w w') : BS w' v l :=
  h.keep fun _ _ hu => (hb.cell (cell_lt hu)).trans hu
theorem byteCells_getElem (l : List UInt8) (j : Nat) (hj : j < l.length) : (Lib.byteCells l)[j]? = some (.int .u8 (l[j]).toNat) := by
  simp [Lib.byteCells, hj]
theorem byteCells_oneCell (l : List UInt8) : ∀ u ∈ Lib.byteCells l, u.oneCell' = true := by
  intro u hu
  simp only [Lib.byteCells, List.mem_map] at hu
  obtain ⟨b, _, rfl⟩ := hu
  rfl
/-- What holds bytes reads as the list of its cells. -/
theorem reads_of_bs {w : World} {A : Option Addr} {c : Nat} {l : List UInt8} (h : BS w (.slice A l.length c) l) : Reads w w.heap.size 1 A l.length (Lib.byteCells l) := by
  obtain ⟨A', c', hv, _, _, hp⟩ := h
  injection hv with hA _ _
  subst hA
  refine ⟨by simp [Lib.byteCells], fun h0 => ?_⟩
  obtain ⟨g, o, rfl, hcell⟩ := hp h0
  refine ⟨_, rfl, cell_lt (hcell 0 h0), fun j u hu => ?_⟩
  have hj : j < l.length := by
    have := (List.getElem?_eq_some_iff.1 hu).1
    simpa [Lib.byteCells] using this
  rw [byteCells_getElem l j hj] at hu
  have hadd : (⟨g, o, none⟩ : Addr).add j = ⟨g, o + j, none⟩ := by unfold Addr.add; split <;> simp_all
  rw [hadd, hcell j hj]
  exact hu
/-- What the call owns holds its bytes. -/
theorem bs_of_own {w : World} {base : Nat} {e : TypeId} {v : Value} {n : Nat} {l : List UInt8} (h : w.ownsRow base e 1 v n (Lib.byteCells l)) : BS w v l := by
  have hl : l.length = n := by simpa [Lib.byteCells] using h.1
  subst hl
  rcases h.2 with ⟨rfl, h0⟩ | ⟨g, cap, cur, rfl, _, hg, hc, hm, _, htk⟩
  · exact ⟨none, 0, by rw [h0], by omega, by simp [maxLen], fun hp => absurd hp (by omega)⟩
  · refine ⟨_, cap, rfl, hc, hm, fun _ => ⟨g, 0, rfl, fun j hj => ?_⟩⟩
    have hx := h.cells (g := g) rfl j _ (byteCells_getElem l j hj)
    have hadd : (⟨g, 0, none⟩ : Addr).add j = ⟨g, 0 + j, none⟩ := by unfold Addr.add; split <;> simp_all
    rw [hadd] at hx
    exact hx
theorem below_dn {B : Nat} {a w : World} (h : Below B a w) (n : Nat) : Below B a (w.drewN n) := ⟨h.os, h.tape, h.output, h.size, h.block⟩

/-- A decoder of the bytes b and the table t. -/
def DecAt (w : World) (gd : Nat) (b t : List UInt8) : Prop := ∃ vd vs, Blk w gd 100 #[vd, vs] ∧ BS w vd b ∧ BS w vs t
theorem DecAt.below {w w' : World} {gd : Nat} {b t : List UInt8} (h : DecAt w gd b t) (hb : Below w.heap.size w w') : DecAt w' gd b t := by
  obtain ⟨vd, vs, h1, h2, h3⟩ := h
  exact ⟨vd, vs, h1.below hb h1.lt, h2.below hb, h3.below hb⟩
theorem DecAt.lt {w : World} {gd : Nat} {b t : List UInt8} (h : DecAt w gd b t) : gd < w.heap.size := by
  obtain ⟨vd, vs, h1, _⟩ := h
  exact h1.lt
theorem BS.len {w : World} {v : Value} {l : List UInt8} (h : BS w v l) : l.length ≤ maxLen := by
  obtain ⟨A, c, _, h1, h2, _⟩ := h
  omega
theorem DecAt.len {w : World} {gd : Nat} {b t : List UInt8} (h : DecAt w gd b t) : b.length ≤ 9223372036854775807 ∧ t.length ≤ 9223372036854775807 := by
  obtain ⟨vd, vs, _, h2, h3⟩ := h
  have h2 := h2.len
  have h3 := h3.len
  simp only [maxLen] at h2 h3
  omega

theorem int_at (gd p n : Nat) (b t : List UInt8) (w : World) (hd : DecAt w gd b t) (h : IntIs b p n) :
    Calls Tryd.prog 34 #[.pointer (some ⟨gd, 0, none⟩), .int .i64 (p : Int)] w fun e w' => e = .returned (.int .i64 (n : Int)) ∧ ∃ k, w' = w.drewN k := by
  obtain ⟨vd, vs, h1, h2, _⟩ := hd
  have hn : num b p = n := h.num
  have hl := h.lt
  have h22 := h.2
  have := intAt_ok gd vd b p w (h1.cell 0) h2 hl (by rw [hn]; exact h22)
  rw [hn] at this
  exact this

theorem text_at (gd off : Nat) (s : ByteArray) (b t : List UInt8) (w : World) (hd : DecAt w gd b t) (h : TextAt t off s) :
    Calls Tryd.prog 83 #[.pointer (some ⟨gd, 0, none⟩), .int .i64 (off : Int)] w fun e w' => e = .returned (.string s) ∧ w = w' := by
  obtain ⟨vd, vs, h1, _, h2⟩ := hd
  have ho := h.lt
  obtain ⟨hs, r, hr⟩ := h
  have hu : Lib.uvarintDec (t.drop off) = (s.size, ((Lib.uvarint s.size).length : Int)) := by
    rw [hr]
    exact uvarintDec_uvarint s.size (by omega) _
  have hlen := congrArg List.length hr
  rw [List.length_drop, List.length_append, List.length_append] at hlen
  have hsz : s.data.toList.length = s.size := by simp
  have hx : ((t.drop (off + (Lib.uvarint s.size).length)).take s.size) = s.data.toList := by
    rw [← List.drop_drop, hr, List.drop_left, List.take_append_of_le_length (by omega), List.take_of_length_le (by omega)]
  have := strAt_ok gd vs t off s.size (Lib.uvarint s.size).length w (h1.cell 1) h2 ho hu (Lib.uvarint_pos _) (by omega)
  rw [hx] at this
  exact this

set_option maxHeartbeats 400000 in
theorem string_at (gd p : Nat) (s : ByteArray) (b t : List UInt8) (w : World) (hd : DecAt w gd b t) (h : ItIs b t p (.s s)) :
    Calls Tryd.prog 70 #[.pointer (some ⟨gd, 0, none⟩), .int .i64 (p : Int)] w fun e w' => e = .returned (.string s) ∧ ∃ k, w' = w.drewN k := by
  obtain ⟨off, h1, h2⟩ := h
  have C1 := Lib.hid (int_at gd p off b t w hd h1)
  have C2 := Lib.hid (fun k => text_at gd off s b t (w.drewN k) hd h2)
  clear hd h1 h2
  go_enter Tryd.func70, Tryd.ntmps70
  go_wp2_with fail
  refine C1.out.mono ?_
  rintro e w' ⟨rfl, k, rfl⟩
  go_wp2_with fail
  refine (C2.out k).mono ?_
  rintro e w' ⟨rfl, rfl⟩
  go_wp2_with fail
  go_ret
  exact ⟨rfl, k, rfl⟩

set_option maxHeartbeats 400000 in
theorem bool_at (gd p : Nat) (x : Bool) (b t : List UInt8) (w : World) (hd : DecAt w gd b t) (h : ItIs b t p (.n x.toNat)) :
    Calls Tryd.prog 78 #[.pointer (some ⟨gd, 0, none⟩), .int .i64 (p : Int)] w fun e w' => e = .returned (.bool x) ∧ ∃ k, w' = w.drewN k := by
  have C1 := Lib.hid (int_at gd p x.toNat b t w hd h)
  clear hd h
  cases x
  · go_enter Tryd.func78, Tryd.ntmps78
    go_wp2_with fail
    refine C1.out.mono ?_
    rintro e w' ⟨rfl, k, rfl⟩
    go_wp2_with fail
    go_ret
    exact ⟨rfl, k, rfl⟩
  · go_enter Tryd.func78, Tryd.ntmps78
    go_wp2_with fail
    refine C1.out.mono ?_
    rintro e w' ⟨rfl, k, rfl⟩
    go_wp2_with fail
    go_ret
    exact ⟨rfl, k, rfl⟩
end Go.Proofs.YtanfimeajalffaaDoor
