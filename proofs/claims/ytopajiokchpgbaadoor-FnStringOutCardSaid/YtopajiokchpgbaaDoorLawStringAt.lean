/-
  The law FnStringAt as a call: whatever the bytes ahead and behind and whatever the text, it returns true and leaves what was there.
-/
import Derived.Test.YtopajiokchpgbaaDoorStrParts
import Derived.Test.YtopajiokchpgbaaDoorShort
namespace Go.Proofs.YtopajiokchpgbaaDoor
open Go.RowKit

/-- The slice of one text that short is called with. -/
theorem reads_one (w : World) (s : ByteArray) (t : TypeId) : Reads (w.alloc (.cells #[.string s] t)) (w.heap.size + 1) 1 (some ⟨w.heap.size, 0, none⟩) 1 ([s].map Value.string) := by
  refine ⟨by simp, fun _ => ⟨_, rfl, by simp, fun j u hu => ?_⟩⟩
  match j, hu with
  | 0, hu =>
    simp at hu
    subst hu
    simp [Addr.add, cell_of_row _ w.heap.size 0 _ t (0, 0) (heap_alloc_new w _)]

/-- An empty slice that has just been made owns nothing yet. -/
theorem own_empty (w : World) (base n : Nat) (t : TypeId) (hn : w.heap.size = n) (hb : base ≤ n) : (w.alloc (.cells #[] t)).ownsRow base t 1 (.slice (some ⟨n, 0, none⟩) 0 0) 0 [] := by
  subst hn
  exact World.ownsRow_made w #[] 0 hb (by simp [maxLen]) rfl

theorem own_below {w w' : World} {base : Nat} {e : TypeId} {size n : Nat} {v : Value} {xs : List Value} (h : w.ownsRow base e size v n xs) (hb : Below w.heap.size w w') : w'.ownsRow base e size v n xs :=
  h.kept (row := none) ⟨hb.os, hb.tape, hb.output, hb.size, fun k hk _ => hb.block k hk⟩ (by cases v.ownBlock <;> simp)

theorem counted_any2 (s : ByteArray) (w : World) (hs : s.size ≤ 1000) :
    Calls Tryd.prog 11 #[.string s] w fun e w' => ∃ A c, e = .returned (.slice A (cnt s).length c) ∧ w'.ownsRow w.heap.size 5 1 (.slice A (cnt s).length c) (cnt s).length (Lib.byteCells (cnt s)) ∧ Below w.heap.size w w' :=
  (counted_any s w hs).mono fun _ _ ⟨v, he, ho, hb⟩ => by
    obtain ⟨A, c, rfl, _⟩ := bs_of_own ho
    exact ⟨A, c, he, ho, hb⟩

theorem cnt_length_le (s : ByteArray) (hs : s.size ≤ 1000) : (cnt s).length ≤ 1002 := by
  have := Lib.uvarint_length 1 s.size (by omega)
  unfold cnt
  rw [List.length_append]
  simp
  omega

theorem drop_mid (a b c : List UInt8) : (a ++ b ++ c).drop a.length = b ++ c := by rw [List.append_assoc, List.drop_left]

theorem text_mid (a c : List UInt8) (s : ByteArray) : (⟨(((a ++ cnt s ++ c).drop (a.length + (Lib.uvarint s.size).length)).take s.size).toArray⟩ : ByteArray) = s := by
  have h : ((a ++ cnt s ++ c).drop (a.length + (Lib.uvarint s.size).length)).take s.size = s.data.toList := by
    unfold cnt
    rw [← List.drop_drop, drop_mid, List.append_assoc, List.drop_left, List.take_append_of_le_length (by simp), List.take_of_length_le (by simp)]
  rw [h]

set_option maxHeartbeats 2000000 in
theorem fnStringAt_any (vb va : Value) (lb la : List UInt8) (s : ByteArray) (w : World) (hb : BS w vb lb) (ha : BS w va la) (hs : s.size ≤ maxLen) :
    Calls Tryd.prog 5 #[vb, .string s, va] w fun e w' => e = .returned (.bool true) ∧ Below w.heap.size w w' := by
  obtain ⟨A, c, rfl, hA⟩ := id hb
  obtain ⟨A2, c2, rfl, hA2⟩ := id ha
  unfold maxLen at hs
  have hbm : lb.length ≤ 9223372036854775807 := by have h := hA.1; have h2 := hA.2.1; simp only [maxLen] at h2; omega
  have ham : la.length ≤ 9223372036854775807 := by have h := hA2.1; have h2 := hA2.2.1; simp only [maxLen] at h2; omega
  clear hA hA2
  by_cases h1 : 300 < lb.length ∨ 300 < la.length ∨ 2147483647 < s.size
  · go_enter Tryd.func5, Tryd.ntmps5
    go_wp2_with fail
    all_goals first
      | (go_ret; exact ⟨rfl, Below.refl _ _⟩)
      | skip
    all_goals (exfalso; omega)
  obtain ⟨g1, g2, g3⟩ : lb.length ≤ 300 ∧ la.length ≤ 300 ∧ s.size ≤ 2147483647 := by omega
  clear h1
  have hsh := fun W : World => short_any (some ⟨W.heap.size, 0, none⟩) 1 (W.heap.size + 1) [s] 1 (W.alloc (.cells #[.string s] 9)) rfl (reads_one W s _) (by omega) (by intro x hx; simp at hx; subst hx; omega)
  have HSH := Lib.hid hsh
  clear hsh
  by_cases h4 : s.size ≤ 1000
  · have e4 : shortB [s] = true := by simp [shortB, h4]
    obtain ⟨i0, hi0, hz0, hz1, hz2⟩ := info_parts byte_info
    have hcl := cnt_length_le s h4
    go_enter Tryd.func5, Tryd.ntmps5
    go_wp2_with fail
    refine (HSH.out w).mono ?_
    rw [e4]
    rintro e w' ⟨rfl, rfl⟩
    clear e4
    go_wp2_with (at_builtin; refine wpList_append_any _ rfl (.tmp 37) (.tmp 38) _ rfl w.heap.size 5 i0 _ 1 1 Tryd.underlying22 hi0 hz0 hz1 hz2 rfl (by omega) (.slice (some ⟨w.heap.size + 1, 0, none⟩) 0 0) 0 [] rfl (own_empty _ _ _ _ (by simp) (by omega)) _ A lb.length c (Lib.byteCells lb) rfl (reads_of_bs ((hb.alloc _).alloc _)) (byteCells_oneCell lb) (by simp only [maxLen]; omega) (by omega) (by simp; omega) ?_; intro v1 w1 hown1 hg1 hat1)
    have hbw0 : Below w.heap.size w ((w.alloc (.cells #[.string s] 9)).alloc (.cells #[] 5)) := ((Below.refl _ _).alloc (Nat.le_refl _) _).alloc (by simp) _
    have hbw1 : Below w.heap.size w w1 := hbw0.grown hg1 hbw0.size (by simp [Value.ownBlock])
    refine (counted_any2 s w1 h4).mono ?_
    rintro e w2 ⟨A3, c3, rfl, hown2, hb2⟩
    have hbw2 : Below w.heap.size w w2 := hbw1.trans (hb2.mono hbw1.size)
    have hown1' := own_below hown1 hb2
    have hr2 := reads_of_bs (bs_of_own hown2)
    generalize hcn : cnt s = cs at hr2 hown2 hcl ⊢
    have HCN := Lib.hid hcn
    clear hcn hown2 hown1 hat1 hg1
    go_wp2_with (first | (at_builtin; refine wpList_append_any _ rfl (.tmp 39) (.tmp 41) _ rfl w.heap.size 5 i0 _ 1 1 Tryd.underlying22 hi0 hz0 hz1 hz2 rfl (by omega) v1 _ _ rfl hown1' _ A3 cs.length c3 (Lib.byteCells cs) rfl hr2 (byteCells_oneCell _) (by simp only [maxLen]; omega) (by omega) hbw2.size ?_; intro v2 w3 hown3 hg3 hat3; have hbw3 : Below w.heap.size w w3 := hbw2.grown hg3 hbw2.size (fun k hk => (hown1'.lt k hk).1)) | (at_builtin; refine wpList_append_any _ rfl (.tmp 42) (.tmp 43) _ rfl w.heap.size 5 i0 _ 1 1 Tryd.underlying22 hi0 hz0 hz1 hz2 rfl (by omega) v2 _ _ rfl hown3 _ _ _ _ (Lib.byteCells la) rfl (reads_of_bs (ha.below hbw3)) (byteCells_oneCell _) (by simp only [maxLen]; omega) (by omega) hbw3.size ?_; intro v4 w4 hown4 hg4 hat4; have hbw4 : Below w.heap.size w w4 := hbw3.grown hg4 hbw3.size (fun k hk => (hown3.lt k hk).1)))
    have hbs : BS w4 v4 (lb ++ cnt s ++ la) := bs_of_own (by rw [HCN.out, byteCells_append, byteCells_append]; simpa using hown4)
    have hlen : (lb ++ cnt s ++ la).length = lb.length + cs.length + la.length := by rw [HCN.out]; simp; omega
    have hcsl : cs.length = (Lib.uvarint s.size).length + s.size := by rw [← HCN.out]; unfold cnt; simp
    have hup := Lib.uvarint_pos s.size
    have hdec : Lib.uvarintDec ((lb ++ cnt s ++ la).drop lb.length) = (s.size, ((Lib.uvarint s.size).length : Int)) := by
      rw [drop_mid]
      unfold cnt
      rw [List.append_assoc]
      exact uvarintDec_uvarint s.size (by omega) _
    have HC := stringAtImpl_ok v4 _ lb.length s.size (Lib.uvarint s.size).length w4 hbs (by omega) hdec (by omega) (by omega) (by omega)
    rw [text_mid] at HC
    refine HC.mono ?_
    rintro e w5 ⟨rfl, hb5⟩
    clear HC hdec hup hcsl hlen hbs hown1' hown3 hown4 hr2 hg3 hg4 hat3 hat4 HCN
    go_wp2
    go_ret
    exact ⟨rfl, hbw4.trans (hb5.mono hbw4.size)⟩
  · have e4 : shortB [s] = false := by simp [shortB]; omega
    go_enter Tryd.func5, Tryd.ntmps5
    go_wp2_with fail
    refine (HSH.out w).mono ?_
    rw [e4]
    rintro e w' ⟨rfl, rfl⟩
    clear e4
    go_wp2_with fail
    go_ret
    exact ⟨rfl, (Below.refl _ _).alloc (Nat.le_refl _) _⟩
end Go.Proofs.YtopajiokchpgbaaDoor
