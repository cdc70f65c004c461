/-
  The encoder: its state as plain data, and the contracts of its methods. Conditions: the premises of each theorem.
-/
import Derived.Test.YtanfimeajalffaaDoorRows
import Derived.Test.YtanfimeajalffaaDoorWords
import Derived.WalkKit
import Derived.WalkSpells
import Derived.WalkLawsBesides
import Derived.Deep.QuietTactic
import Derived.BigQuiet
import Derived.Lib.Endian
import Derived.Lib.EndianBits
import Derived.Lib.Hide
import Derived.Maps.AppendAt
import Derived.Maps.OwnSet
namespace Go.Proofs.YtanfimeajalffaaDoor
open Go.RowKit

theorem bc_getElem (l : List UInt8) (j : Nat) (hj : j < l.length) : (Lib.byteCells l)[j]? = some (.int .u8 (l[j]).toNat) := by
  simp [Lib.byteCells, hj]
theorem bc_one (l : List UInt8) : ∀ u ∈ Lib.byteCells l, u.oneCell' = true := by
  intro u hu
  simp only [Lib.byteCells, List.mem_map] at hu
  obtain ⟨b, _, rfl⟩ := hu
  rfl
theorem bc_append (a b : List UInt8) : Lib.byteCells (a ++ b) = Lib.byteCells a ++ Lib.byteCells b := by simp [Lib.byteCells]
theorem bc_length (a : List UInt8) : (Lib.byteCells a).length = a.length := by simp [Lib.byteCells]

theorem one_cell (v : Value) (h : v.oneCell' = true) : ∀ u ∈ [v], u.oneCell' = true := by
  intro u hu
  simp at hu
  subst hu
  exact h

theorem u8_info : (Tryd.prog.info? 5).map (fun i => (i.zero, i.size, i.bytes)) = some (some (.int .u8 0), 1, 1) := by kernel_rfl

theorem info_parts' {t : TypeId} {z : Value} {s b : Nat} (h : (Tryd.prog.info? t).map (fun i => (i.zero, i.size, i.bytes)) = some (some z, s, b)) : ∃ i, Tryd.prog.info? t = some i ∧ i.zero = some z ∧ i.size = s ∧ i.bytes = b := by
  cases hi : Tryd.prog.info? t with
  | none => rw [hi] at h; cases h
  | some i =>
    rw [hi] at h
    simp at h
    exact ⟨i, rfl, h.1, h.2.1, h.2.2⟩

theorem le_cells (n : Nat) (hn : n < 4294967296) : Lib.byteCells (Lib.leBytes 4 n) = [Value.int .u8 ((n : Int) % 256), Value.int .u8 ((n : Int) / 256 % 256), Value.int .u8 ((n : Int) / 65536 % 256), Value.int .u8 ((n : Int) / 16777216)] := by
  have e0 : ((n % 256 : Nat) : Int) = (n : Int) % 256 := by omega
  have e1 : ((n / 256 % 256 : Nat) : Int) = (n : Int) / 256 % 256 := by omega
  have e2 : ((n / 256 / 256 % 256 : Nat) : Int) = (n : Int) / 65536 % 256 := by omega
  have e3 : ((n / 256 / 256 / 256 % 256 : Nat) : Int) = (n : Int) / 16777216 := by omega
  simp only [Lib.byteCells, Lib.leBytes, List.map, Lib.toUInt8_mod, e0, e1, e2, e3]

/-- What an append to a row of bytes leaves: the row, and where it lies. -/
def Longer (base : Nat) (w w' : World) (v v' : Value) (l : List UInt8) : Prop :=
  w'.ownsRow base 5 1 v' l.length (Lib.byteCells l) ∧ w.grownBy w' v.ownBlock ∧ ∀ k, v'.ownBlock = some k → v.ownBlock = some k ∨ w.heap.size ≤ k

set_option maxHeartbeats 1000000 in
theorem leAppend_any (base n : Nat) (v : Value) (l : List UInt8) (w : World) (hn : n < 4294967296) (ho : w.ownsRow base 5 1 v l.length (Lib.byteCells l)) (hl : l.length ≤ 100000000) (hbs : base ≤ w.heap.size) :
    Calls Tryd.prog 71 #[v, .int .u32 (n : Int)] w fun e w' => ∃ v', e = .returned v' ∧ Longer base w w' v v' (l ++ Lib.leBytes 4 n) := by
  obtain ⟨i0, hi0, hz0, hz1, hz2⟩ := info_parts' u8_info
  have HC := Lib.hid (le_cells n hn)
  have hbs' : base ≤ (w.alloc (.cells #[Value.int .u8 ((n : Int) % 256), Value.int .u8 ((n : Int) / 256 % 256), Value.int .u8 ((n : Int) / 65536 % 256), Value.int .u8 ((n : Int) / 16777216)] 5)).heap.size := by simp; omega
  have ho' := ho.alloc (.cells #[Value.int .u8 ((n : Int) % 256), Value.int .u8 ((n : Int) / 256 % 256), Value.int .u8 ((n : Int) / 65536 % 256), Value.int .u8 ((n : Int) / 16777216)] 5)
  have hnew : ∀ j u, (Lib.byteCells (Lib.leBytes 4 n))[j]? = some u → (w.alloc (.cells #[Value.int .u8 ((n : Int) % 256), Value.int .u8 ((n : Int) / 256 % 256), Value.int .u8 ((n : Int) / 65536 % 256), Value.int .u8 ((n : Int) / 16777216)] 5)).cell? ((⟨w.heap.size, 0, none⟩ : Addr).add j) = some u := by
    intro j u hj
    rw [HC.out] at hj
    have hadd : (⟨w.heap.size, 0, none⟩ : Addr).add j = ⟨w.heap.size, j, none⟩ := by unfold Addr.add; split <;> simp_all
    rw [hadd, cell_of_row _ w.heap.size j _ _ (0, 0) (heap_alloc_new w _)]
    simpa using hj
  go_enter Tryd.func71, Tryd.ntmps71
  go_wp2_with (at_builtin; refine wpList_append_own_at _ rfl (.tmp 5) (.tmp 17) _ rfl base 5 i0 (.int .u8 0) 1 1 Tryd.underlying30 hi0 hz0 hz1 hz2 rfl (by decide) v l.length (Lib.byteCells l) rfl ho' ⟨w.heap.size, 0, none⟩ 4 4 (Lib.byteCells (Lib.leBytes 4 n)) rfl (by rw [bc_length]; simp [Lib.leBytes]) hnew (bc_one _) (by unfold maxLen; omega) (by omega) hbs' ?_; intro v4 w4 hown4 hgrow4 _ hat4)
  have hlen : (Lib.leBytes 4 n).length = 4 := by simp [Lib.leBytes]
  have hL : Longer base w w4 v v4 (l ++ Lib.leBytes 4 n) := by
    refine ⟨?_, ((World.grownBy_alloc w _ none).but v.ownBlock).trans hgrow4, fun k hk => ?_⟩
    · rw [List.length_append, hlen, bc_append]
      exact hown4
    · rcases hat4 with h | h
      · exact .inl (h ▸ hk)
      · rw [h] at hk
        injection hk with hk
        simp at hk
        exact .inr (by omega)
  go_ret
  exact ⟨v4, rfl, hL⟩

theorem longer_of {base : Nat} {w w' : World} {v v' : Value} {l x : List UInt8} (h : w'.ownsRow base 5 1 v' (l.length + x.length) (Lib.byteCells l ++ Lib.byteCells x)) (hg : w.grownBy w' v.ownBlock) (hat : v'.ownBlock = v.ownBlock ∨ v'.ownBlock = some w.heap.size) : Longer base w w' v v' (l ++ x) := by
  refine ⟨by rw [List.length_append, bc_append]; exact h, hg, fun k hk => ?_⟩
  rcases hat with h | h
  · exact .inl (h ▸ hk)
  · rw [h] at hk
    injection hk with hk
    exact .inr (by omega)

/-- The encoder's state as plain data: the bytes, the table of texts, the places of the texts. -/
structure ES where
  b : List UInt8
  t : List UInt8
  d : List (ByteArray × Nat)

/-- The place of a text. -/
def look : List (ByteArray × Nat) → ByteArray → Option Nat
  | [], _ => none
  | (k, n) :: r, s => if k = s then some n else look r s

/-- The places, as a map reads. -/
def DictIs (D : DataW Unit) (d : List (ByteArray × Nat)) : Prop :=
  ∀ s : ByteArray, Maps.has D (.string s.data.toList) = (look d s).isSome ∧ ∀ n, look d s = some n → ∀ z, D.atKey (.string s.data.toList) z = .lit (.int .i64 (n : Int))

/-- All places are less than the table is long, and there are at most as many. -/
def Good (es : ES) : Prop := (∀ s n, look es.d s = some n → n < es.t.length) ∧ es.d.length ≤ es.t.length

/-- An encoder lies in block E, all that it owns at or behind base. -/
def Enc (w : World) (base E : Nat) (es : ES) : Prop :=
  ∃ vb vt M D n, Blk w E 117 #[vb, vt, .map (some M)] ∧ base ≤ E ∧ base ≤ M ∧
    w.ownsRow base 5 1 vb es.b.length (Lib.byteCells es.b) ∧ w.ownsRow base 5 1 vt es.t.length (Lib.byteCells es.t) ∧ (vb.ownBlock = none ∨ vb.ownBlock ≠ vt.ownBlock) ∧
    w.ownsMap Tryd.prog 9 (Go.plainElem Tryd.prog 3) M n D ∧ n ≤ es.d.length ∧ DictIs D es.d

/-- Block g is none of the encoder's. -/
def Apart (w : World) (E g : Nat) : Prop :=
  g < w.heap.size ∧ ∃ vb vt M, Blk w E 117 #[vb, vt, .map (some M)] ∧ g ≠ E ∧ g ≠ M ∧ vb.ownBlock ≠ some g ∧ vt.ownBlock ≠ some g

/-- What a method of the encoder leaves: all that lay ahead of base, and all that is none of the encoder's. -/
def Fr (base E : Nat) (w w' : World) : Prop := Below base w w' ∧ ∀ g, Apart w E g → Apart w' E g ∧ w'.heap[g]? = w.heap[g]?

theorem Fr.refl (base E : Nat) (w : World) : Fr base E w w := ⟨Below.refl base w, fun _ h => ⟨h, rfl⟩⟩
theorem Fr.trans {base E : Nat} {a b c : World} (h : Fr base E a b) (k : Fr base E b c) : Fr base E a c :=
  ⟨h.1.trans k.1, fun g hg => ⟨(k.2 g (h.2 g hg).1).1, (k.2 g (h.2 g hg).1).2.trans (h.2 g hg).2⟩⟩
theorem Apart.alloc {w : World} {E g : Nat} (h : Apart w E g) (o : Obj) : Apart (w.alloc o) E g := by
  obtain ⟨h1, vb, vt, M, hE, h2⟩ := h
  exact ⟨by simp; omega, vb, vt, M, hE.alloc o, h2⟩
theorem Fr.alloc {base E : Nat} {a w : World} (h : Fr base E a w) (hB : base ≤ w.heap.size) (o : Obj) : Fr base E a (w.alloc o) :=
  ⟨h.1.alloc hB o, fun g hg => ⟨(h.2 g hg).1.alloc o, (Below.heap_alloc w o g (h.2 g hg).1.1).trans (h.2 g hg).2⟩⟩
theorem Fr.cell {base E : Nat} {w w' : World} (h : Fr base E w w') {p : Addr} (hp : Apart w E p.block) : w'.cell? p = w.cell? p := World.cell?_of_block (w := w) (h.2 p.block hp).2

theorem own_form' {w : World} {base : Nat} {e : TypeId} {size n : Nat} {v : Value} {xs : List Value} (h : w.ownsRow base e size v n xs) : ∃ A c, v = .slice A n c := by
  rcases h.2 with ⟨rfl, rfl⟩ | ⟨g, cap, cur, rfl, _⟩
  · exact ⟨none, 0, rfl⟩
  · exact ⟨_, cap, rfl⟩

theorem blk_inj {w : World} {E : Nat} {t : TypeId} {a b a' b' : Value} {M M' : Nat} (h : Blk w E t #[a, b, .map (some M)]) (h' : Blk w E t #[a', b', .map (some M')]) : a = a' ∧ b = b' ∧ M = M' := by
  unfold Blk at h h'
  rw [h] at h'
  injection h' with h'
  injection h' with h'
  simp at h'
  exact h'

theorem grownBy_setCell (w : World) (p : Addr) (u : Value) : w.grownBy (w.setCell p u) (some p.block) :=
  ⟨rfl, rfl, rfl, by simp, fun k _ hk => heap_setCell_other w p k u (fun e => hk (by simp [e]))⟩

theorem own_map_ne {w : World} {base n M m : Nat} {e : TypeId} {v : Value} {xs : List Value} {D : DataW Unit} {k : TypeId} {R} {size : Nat} (h : w.ownsRow base e size v n xs) (hm : w.ownsMap Tryd.prog k R M m D) : v.ownBlock ≠ some M := by
  intro hk
  obtain ⟨es, clock, hb, _⟩ := hm
  rcases h.2 with ⟨rfl, _⟩ | ⟨g, cap, cur, rfl, _, hg, _⟩
  · simp [Value.ownBlock] at hk
  · simp [Value.ownBlock] at hk
    subst hk
    rw [hg] at hb
    cases hb
theorem blk_map_ne {w : World} {E M m : Nat} {t : TypeId} {cs : Array Value} {D : DataW Unit} {k : TypeId} {R} (h : Blk w E t cs) (hm : w.ownsMap Tryd.prog k R M m D) : E ≠ M := by
  rintro rfl
  obtain ⟨es, clock, hb, _⟩ := hm
  unfold Blk at h
  rw [h] at hb
  cases hb

/-- The first field written: the bytes have grown. -/
theorem Enc.store0 {base E M m : Nat} {vb vt v1 : Value} {D : DataW Unit} {es : ES} {l : List UInt8} {w w1 : World} (hE : Blk w E 117 #[vb, vt, .map (some M)]) (hbE : base ≤ E) (hbM : base ≤ M)
    (hob : w.ownsRow base 5 1 vb es.b.length (Lib.byteCells es.b)) (hot : w.ownsRow base 5 1 vt es.t.length (Lib.byteCells es.t)) (hne : vb.ownBlock = none ∨ vb.ownBlock ≠ vt.ownBlock)
    (hom : w.ownsMap Tryd.prog 9 (Go.plainElem Tryd.prog 3) M m D) (hm : m ≤ es.d.length) (hD : DictIs D es.d) (hL : Longer base w w1 vb v1 l) :
    Enc (w1.setCell ⟨E, 0, none⟩ v1) base E { es with b := l } ∧ Fr base E w (w1.setCell ⟨E, 0, none⟩ v1) ∧ w1.cell? ⟨E, 0, none⟩ = some vb ∧ w1.frozen? ⟨E, 0, none⟩ = false := by
  obtain ⟨h1, hg, hat⟩ := hL
  have hEb : vb.ownBlock ≠ some E := own_blk_ne hob hE (by decide)
  have hEt : vt.ownBlock ≠ some E := own_blk_ne hot hE (by decide)
  have hE1 : Blk w1 E 117 #[vb, vt, .map (some M)] := hE.grown hg hEb.symm
  have hE' : v1.ownBlock ≠ some E := own_blk_ne h1 hE1 (by decide)
  have hne1 : ∀ k, v1.ownBlock = some k → vt.ownBlock ≠ some k := by
    intro k hk ht
    rcases hat k hk with h | h
    · rcases hne with h' | h'
      · rw [h'] at h; cases h
      · exact h' (h.trans ht.symm)
    · have := (hot.lt k ht).2
      omega
  have hot1 : w1.ownsRow base 5 1 vt es.t.length (Lib.byteCells es.t) := by
    refine hot.kept hg ?_
    rcases hne with h | h
    · rw [h]
      cases vt.ownBlock <;> simp
    · exact .inr h.symm
  have hom1 := hom.kept hg (own_map_ne hob hom).symm
  have hME : M ≠ E := fun h => blk_map_ne hE hom h.symm
  have hS := grownBy_setCell w1 ⟨E, 0, none⟩ v1
  refine ⟨⟨v1, vt, M, D, m, ?_, hbE, hbM, h1.kept hS (.inr hE'), hot1.kept hS (.inr hEt), ?_, hom1.kept hS (by simpa using hME), hm, hD⟩, ⟨((Below.refl base w).grown hg (by have := hE.lt; omega) (fun k hk => (hob.lt k hk).1)).setCell hbE _, fun g hg2 => ?_⟩, hE1.cell 0, hE1.frozen 0⟩
  · exact hE1.set_ 0 v1
  · cases h : v1.ownBlock with
    | none => exact .inl rfl
    | some k => exact .inr fun h2 => hne1 k h h2.symm
  · obtain ⟨hlt, vb', vt', M', hE2, g1, g2, g3, g4⟩ := hg2
    obtain ⟨rfl, rfl, rfl⟩ := blk_inj hE hE2
    refine ⟨⟨?_, v1, vt, M, hE1.set_ 0 v1, g1, g2, fun h => ?_, g4⟩, (Below.heap_setCell w1 _ v1 g g1).trans (hg.block g hlt (Ne.symm g3))⟩
    · have := hg.size
      simp
      omega
    · rcases hat g h with h | h
      · exact g3 h
      · omega

set_option maxHeartbeats 1000000 in
theorem uint32_any (base E n : Nat) (es : ES) (w : World) (hn : n < 4294967296) (hl : es.b.length ≤ 100000000) (h : Enc w base E es) :
    Calls Tryd.prog 39 #[.pointer (some ⟨E, 0, none⟩), .int .u32 (n : Int)] w fun e w' => e = .returned (.tuple #[]) ∧ Enc w' base E { es with b := es.b ++ Lib.leBytes 4 n } ∧ Fr base E w w' := by
  obtain ⟨vb, vt, M, D, m, hE, hbE, hbM, hob, hot, hne, hom, hm, hD⟩ := h
  have hc0 : w.cell? ⟨E, 0, none⟩ = some vb := hE.cell 0
  have hlt := hE.lt
  have C := leAppend_any base n vb es.b w hn hob hl (by omega)
  go_enter Tryd.func39, Tryd.ntmps39
  go_wp2_with fail
  refine C.mono ?_
  rintro e w1 ⟨v1, rfl, hL⟩
  clear C
  obtain ⟨hEnc, hbw, hcE, hfE⟩ := Enc.store0 hE hbE hbM hob hot hne hom hm hD hL
  obtain ⟨A1, c1, rfl⟩ := own_form' hL.1
  rw [List.length_append] at hEnc hbw
  have HE := Lib.hid hEnc
  have HB := Lib.hid hbw
  clear hEnc hbw hL hob hot hom hE
  go_wp2_with fail
  refine bodyPost_end (results_none rfl _ _ _) rfl ?_
  exact ⟨rfl, HE.out, HB.out⟩

theorem pos_any (base E : Nat) (es : ES) (w : World) (h : Enc w base E es) :
    Calls Tryd.prog 38 #[.pointer (some ⟨E, 0, none⟩)] w fun e w' => e = .returned (.int .i64 es.b.length) ∧ w = w' := by
  obtain ⟨vb, vt, M, D, m, hE, hbE, hbM, hob, hot, hne, hom, hm, hD⟩ := h
  have hc0 : w.cell? ⟨E, 0, none⟩ = some vb := hE.cell 0
  obtain ⟨A1, c1, rfl⟩ := own_form' hob
  clear hE hob hot hne hom hm hD
  go_enter Tryd.func38, Tryd.ntmps38
  go_wp2_with fail
  go_ret
  exact ⟨rfl, rfl⟩

set_option maxHeartbeats 1000000 in
theorem int_any (base E n : Nat) (es : ES) (w : World) (hn : n < 2147483648) (hl : es.b.length ≤ 100000000) (h : Enc w base E es) :
    Calls Tryd.prog 43 #[.pointer (some ⟨E, 0, none⟩), .int .i64 (n : Int)] w fun e w' => e = .returned (.tuple #[]) ∧ Enc w' base E { es with b := es.b ++ Lib.leBytes 4 n } ∧ Fr base E w w' := by
  have C := uint32_any base E n es w (by omega) hl h
  go_enter Tryd.func43, Tryd.ntmps43
  go_wp2_with fail
  refine C.mono ?_
  rintro e w1 ⟨rfl, hE, hB⟩
  go_wp2_with fail
  refine bodyPost_end (results_none rfl _ _ _) rfl ?_
  exact ⟨rfl, hE, hB⟩

theorem bool_any (base E : Nat) (b : Bool) (es : ES) (w : World) (hl : es.b.length ≤ 100000000) (h : Enc w base E es) :
    Calls Tryd.prog 96 #[.pointer (some ⟨E, 0, none⟩), .bool b] w fun e w' => e = .returned (.tuple #[]) ∧ Enc w' base E { es with b := es.b ++ Lib.leBytes 4 b.toNat } ∧ Fr base E w w' := by
  have C := uint32_any base E b.toNat es w (by cases b <;> decide) hl h
  cases b
  all_goals
    go_enter Tryd.func96, Tryd.ntmps96
    go_wp2_with fail
    refine C.mono ?_
    rintro e w1 ⟨rfl, hE, hB⟩
    go_wp2_with fail
    refine bodyPost_end (results_none rfl _ _ _) rfl ?_
    exact ⟨rfl, hE, hB⟩

set_option maxHeartbeats 1000000 in
theorem bytes_any (base E c B : Nat) (A : Option Addr) (l : List UInt8) (es : ES) (w : World) (hl : es.b.length ≤ 100000000) (hl2 : l.length ≤ 100000000) (hr : Reads w B 1 A l.length (Lib.byteCells l)) (h : Enc w base E es) :
    Calls Tryd.prog 37 #[.pointer (some ⟨E, 0, none⟩), .slice A l.length c] w fun e w' => e = .returned (.tuple #[]) ∧ Enc w' base E { es with b := es.b ++ l } ∧ Fr base E w w' := by
  obtain ⟨i0, hi0, hz0, hz1, hz2⟩ := info_parts' u8_info
  obtain ⟨vb, vt, M, D, m, hE, hbE, hbM, hob, hot, hne, hom, hm, hD⟩ := h
  have hc0 : w.cell? ⟨E, 0, none⟩ = some vb := hE.cell 0
  have hlt := hE.lt
  go_enter Tryd.func37, Tryd.ntmps37
  go_wp2_with (at_builtin; refine wpList_append_any _ rfl (.tmp 8) (.tmp 9) _ rfl base 5 i0 (.int .u8 0) 1 1 Tryd.underlying30 hi0 hz0 hz1 hz2 rfl (by decide) vb es.b.length (Lib.byteCells es.b) rfl hob B A l.length c (Lib.byteCells l) rfl hr (bc_one _) (by unfold maxLen; omega) (by omega) (by omega) ?_; intro v2 w2 hown2 hg2 hat2; obtain ⟨hEnc, hbw, hcE, hfE⟩ := Enc.store0 hE hbE hbM hob hot hne hom hm hD (longer_of hown2 hg2 hat2); obtain ⟨A1, c1, rfl⟩ := own_form' hown2; have HE := Lib.hid hEnc; have HB := Lib.hid hbw; clear hEnc hbw hown2 hg2 hat2 hob hot hom hE hr)
  refine bodyPost_end (results_none rfl _ _ _) rfl ?_
  exact ⟨rfl, HE.out, HB.out⟩
end Go.Proofs.YtanfimeajalffaaDoor
