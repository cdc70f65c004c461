/-
  The encoder, more: its state with its bounds, a place, a new encoder. Conditions: the premises of each theorem.
-/
import Derived.Test.YtanfimeajalffaaDoorEnc4
namespace Go.Proofs.YtanfimeajalffaaDoor
open Go.RowKit

/-- A number, written. -/
def ES.int (es : ES) (n : Nat) : ES := { es with b := es.b ++ Lib.leBytes 4 n }

/-- An encoder, its bounds with it. -/
def EG (w : World) (base E : Nat) (es : ES) (kb kt : Nat) : Prop := Enc w base E es ∧ Good es ∧ es.b.length ≤ kb ∧ es.t.length ≤ kt

theorem le_len (n : Nat) : (Lib.leBytes 4 n).length = 4 := by simp [Lib.leBytes]

theorem Good.int {es : ES} (h : Good es) (n : Nat) : Good (es.int n) := h

theorem Good.str {es : ES} (h : Good es) (s : ByteArray) : Good (es.str s) := by
  unfold ES.str
  split
  · exact h
  · rename_i hl
    have hp := Lib.uvarint_pos s.size
    refine ⟨fun x n hx => ?_, ?_⟩
    · show n < (es.t ++ (Lib.uvarint s.size ++ s.data.toList)).length
      rw [List.length_append, List.length_append]
      simp only [look] at hx
      split at hx
      · injection hx with hx
        omega
      · have := h.1 x n hx
        omega
    · show ((s, es.t.length) :: es.d).length ≤ (es.t ++ (Lib.uvarint s.size ++ s.data.toList)).length
      have := h.2
      rw [List.length_append, List.length_append, List.length_cons]
      omega

theorem str_b (es : ES) (s : ByteArray) : (es.str s).b.length = es.b.length + 4 := by
  unfold ES.str
  split <;> simp [le_len]

theorem str_t (es : ES) (s : ByteArray) (hs : s.size ≤ 1000) : (es.str s).t.length ≤ es.t.length + 1002 := by
  unfold ES.str
  split
  · simp
  · have hlen := Lib.uvarint_length 1 s.size (by omega)
    have hs2 : s.data.toList.length = s.size := by simp
    simp only [List.length_append, hs2]
    omega

theorem strG (base E kb kt : Nat) (s : ByteArray) (es : ES) (w : World) (hs : s.size ≤ 1000) (hkb : kb ≤ 100000000) (hkt : kt ≤ 100000000) (h : EG w base E es kb kt) :
    Calls Tryd.prog 44 #[.pointer (some ⟨E, 0, none⟩), .string s] w fun e w' => e = .returned (.tuple #[]) ∧ EG w' base E (es.str s) (kb + 4) (kt + 1002) ∧ Fr base E w w' := by
  obtain ⟨h1, h2, h3, h4⟩ := h
  refine (string_any base E s es w hs (by omega) (by omega) h2 h1).mono ?_
  rintro e w' ⟨rfl, hE, hB⟩
  have := str_t es s hs
  have := str_b es s
  exact ⟨rfl, ⟨hE, h2.str s, by omega, by omega⟩, hB⟩

theorem intG (base E kb kt n : Nat) (es : ES) (w : World) (hn : n < 2147483648) (hkb : kb ≤ 100000000) (h : EG w base E es kb kt) :
    Calls Tryd.prog 43 #[.pointer (some ⟨E, 0, none⟩), .int .i64 (n : Int)] w fun e w' => e = .returned (.tuple #[]) ∧ EG w' base E (es.int n) (kb + 4) kt ∧ Fr base E w w' := by
  obtain ⟨h1, h2, h3, h4⟩ := h
  refine (int_any base E n es w hn (by omega) h1).mono ?_
  rintro e w' ⟨rfl, hE, hB⟩
  exact ⟨rfl, ⟨hE, h2, by show (es.b ++ Lib.leBytes 4 n).length ≤ _; rw [List.length_append, le_len]; omega, h4⟩, hB⟩

theorem boolG (base E kb kt : Nat) (b : Bool) (es : ES) (w : World) (hkb : kb ≤ 100000000) (h : EG w base E es kb kt) :
    Calls Tryd.prog 96 #[.pointer (some ⟨E, 0, none⟩), .bool b] w fun e w' => e = .returned (.tuple #[]) ∧ EG w' base E (es.int b.toNat) (kb + 4) kt ∧ Fr base E w w' := by
  obtain ⟨h1, h2, h3, h4⟩ := h
  refine (bool_any base E b es w (by omega) h1).mono ?_
  rintro e w' ⟨rfl, hE, hB⟩
  exact ⟨rfl, ⟨hE, h2, by show (es.b ++ Lib.leBytes 4 b.toNat).length ≤ _; rw [List.length_append, le_len]; omega, h4⟩, hB⟩

/-- A place, and a directive with its place, as data. -/
structure PosD where
  fn : ByteArray
  o : Int
  l : Int
  c : Int
structure DirD where
  text : ByteArray
  at_ : PosD

def PosD.ok (p : PosD) : Prop := p.fn.size ≤ 1000 ∧ 0 ≤ p.o ∧ p.o ≤ 2147483647 ∧ 0 ≤ p.l ∧ p.l ≤ 2147483647 ∧ 0 ≤ p.c ∧ p.c ≤ 2147483647

def ES.pos (es : ES) (p : PosD) : ES := (((es.str p.fn).int p.o.toNat).int p.l.toNat).int p.c.toNat

theorem EG.alloc {w : World} {base E kb kt : Nat} {es : ES} (h : EG w base E es kb kt) (o : Obj) : EG (w.alloc o) base E es kb kt := by
  obtain ⟨⟨vb, vt, M, D, m, hE, hbE, hbM, hob, hot, hne, hom, hm, hD⟩, h2⟩ := h
  exact ⟨⟨vb, vt, M, D, m, hE.alloc o, hbE, hbM, hob.alloc o, hot.alloc o, hne, hom.alloc o, hm, hD⟩, h2⟩

/-- A block just made is none of the encoder's. -/
theorem EG.new {w : World} {base E kb kt : Nat} {es : ES} (h : EG w base E es kb kt) (o : Obj) : Apart (w.alloc o) E w.heap.size := by
  obtain ⟨⟨vb, vt, M, D, m, hE, hbE, hbM, hob, hot, hne, hom, hm, hD⟩, h2⟩ := h
  refine ⟨by simp, vb, vt, M, hE.alloc o, ?_, ?_, fun e => ?_, fun e => ?_⟩
  · have := hE.lt
    omega
  · have := hom.lt
    omega
  · have := (hob.lt _ e).2
    omega
  · have := (hot.lt _ e).2
    omega

theorem EG.lt {w : World} {base E kb kt : Nat} {es : ES} (h : EG w base E es kb kt) : base ≤ E ∧ E < w.heap.size := by
  obtain ⟨⟨vb, vt, M, D, m, hE, hbE, hbM, _⟩, _⟩ := h
  exact ⟨hbE, hE.lt⟩

set_option maxHeartbeats 2000000 in
theorem posG (base E kb kt : Nat) (p : PosD) (es : ES) (w : World) (hp : p.ok) (hkb : kb ≤ 90000000) (hkt : kt ≤ 90000000) (h : EG w base E es kb kt) :
    Calls Tryd.prog 97 #[.pointer (some ⟨E, 0, none⟩), .agg #[.string p.fn, .int .i64 p.o, .int .i64 p.l, .int .i64 p.c]] w fun e w' => e = .returned (.tuple #[]) ∧ EG w' base E (es.pos p) (kb + 16) (kt + 1002) ∧ Fr base E w w' := by
  obtain ⟨fn, o, l, c⟩ := p
  obtain ⟨hf, ho0, ho, hl0, hl, hc0, hc⟩ := hp
  obtain ⟨o, rfl⟩ := Int.eq_ofNat_of_zero_le ho0
  obtain ⟨l, rfl⟩ := Int.eq_ofNat_of_zero_le hl0
  obtain ⟨c, rfl⟩ := Int.eq_ofNat_of_zero_le hc0
  simp only at hf ho hl hc
  have HB := h.lt
  have HR := Lib.hid (h.alloc (.cells #[.string fn, .int .i64 (o : Int), .int .i64 (l : Int), .int .i64 (c : Int)] 78))
  have hA0 : Apart (w.alloc (.cells #[.string fn, .int .i64 (o : Int), .int .i64 (l : Int), .int .i64 (c : Int)] 78)) E w.heap.size := h.new _
  have hb0 : Fr base E w (w.alloc (.cells #[.string fn, .int .i64 (o : Int), .int .i64 (l : Int), .int .i64 (c : Int)] 78)) := (Fr.refl base E w).alloc (by omega) _
  have hblk := Blk.new w 78 #[.string fn, .int .i64 (o : Int), .int .i64 (l : Int), .int .i64 (c : Int)]
  generalize hW0 : w.alloc (.cells #[.string fn, .int .i64 (o : Int), .int .i64 (l : Int), .int .i64 (c : Int)] 78) = w0 at *
  have C0 := strG base E kb kt fn es w0 hf (by omega) (by omega) HR.out
  have HW := Lib.hid hW0
  clear h hW0
  go_enter Tryd.func97, Tryd.ntmps97
  go_wp2_with fail
  rw [HW.out]
  refine C0.mono ?_
  rintro e w1 ⟨rfl, hE1, hF1⟩
  have hA1 := (hF1.2 _ hA0).1
  have hb1 : Blk w1 w.heap.size 78 #[.string fn, .int .i64 (o : Int), .int .i64 (l : Int), .int .i64 (c : Int)] := (hF1.2 _ hA0).2.trans hblk
  have hc1 : w1.cell? ⟨w.heap.size, 1, none⟩ = some (.int .i64 (o : Int)) := hb1.cell 1
  have C1 := intG base E _ _ o _ w1 (by omega) (by omega) hE1
  clear C0 hE1
  go_wp2_with fail
  refine C1.mono ?_
  rintro e w2 ⟨rfl, hE2, hF2⟩
  have hA2 := (hF2.2 _ hA1).1
  have hb2 : Blk w2 w.heap.size 78 #[.string fn, .int .i64 (o : Int), .int .i64 (l : Int), .int .i64 (c : Int)] := (hF2.2 _ hA1).2.trans hb1
  have hc2 : w2.cell? ⟨w.heap.size, 2, none⟩ = some (.int .i64 (l : Int)) := hb2.cell 2
  have C2 := intG base E _ _ l _ w2 (by omega) (by omega) hE2
  clear C1 hE2
  go_wp2_with fail
  refine C2.mono ?_
  rintro e w3 ⟨rfl, hE3, hF3⟩
  have hb3 : Blk w3 w.heap.size 78 #[.string fn, .int .i64 (o : Int), .int .i64 (l : Int), .int .i64 (c : Int)] := (hF3.2 _ hA2).2.trans hb2
  have hc3 : w3.cell? ⟨w.heap.size, 3, none⟩ = some (.int .i64 (c : Int)) := hb3.cell 3
  have C3 := intG base E _ _ c _ w3 (by omega) (by omega) hE3
  clear C2 hE3
  go_wp2_with fail
  refine C3.mono ?_
  rintro e w4 ⟨rfl, hE4, hF4⟩
  go_wp2_with fail
  refine bodyPost_end (results_none rfl _ _ _) rfl ?_
  exact ⟨rfl, hE4, (((hb0.trans hF1).trans hF2).trans hF3).trans hF4⟩
end Go.Proofs.YtanfimeajalffaaDoor
