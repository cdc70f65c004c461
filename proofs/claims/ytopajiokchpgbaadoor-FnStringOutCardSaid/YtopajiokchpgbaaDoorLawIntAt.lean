/-
  The law FnIntAt as a call: whatever the bytes ahead and behind and whatever the number, it returns true and leaves what was there.
-/
import Derived.Test.YtopajiokchpgbaaDoorParts
namespace Go.Proofs.YtopajiokchpgbaaDoor
open Go.RowKit

theorem byteCells_append (a b : List UInt8) : Lib.byteCells (a ++ b) = Lib.byteCells a ++ Lib.byteCells b := by simp [Lib.byteCells]

/-- A new block of bytes holds them. -/
theorem bs_new (w : World) (l : List UInt8) (t : TypeId) (hl : l.length ≤ maxLen) : BS (w.alloc (.cells (Lib.byteCells l).toArray t)) (.slice (some ⟨w.heap.size, 0, none⟩) l.length l.length) l := by
  refine ⟨_, _, rfl, Nat.le_refl _, hl, fun _ => ⟨_, _, rfl, fun j hj => ?_⟩⟩
  rw [cell_of_row _ w.heap.size (0 + j) _ t (0, 0) (heap_alloc_new w _)]
  simpa using byteCells_getElem l j hj

theorem BS.below {w w' : World} {v : Value} {l : List UInt8} (h : BS w v l) (hb : Below w.heap.size w w') : BS w' v l :=
  h.keep fun p _ hu => (hb.cell (World.block_lt_of_cell? w p hu)).trans hu

theorem num_mid (a b : List UInt8) (n : Nat) (hn : n < 4294967296) : num (a ++ Lib.leBytes 4 n ++ b) a.length = n := by
  unfold num
  rw [List.append_assoc, List.drop_left, List.take_append_of_le_length (by rw [Lib.leBytes_length]; exact Nat.le_refl _), List.take_of_length_le (by rw [Lib.leBytes_length]; exact Nat.le_refl _)]
  exact Lib.leNat_leBytes 4 n (by omega)

set_option maxHeartbeats 1000000 in
theorem fnIntAt_any (vb va : Value) (lb la : List UInt8) (n : Nat) (w : World) (hb : BS w vb lb) (ha : BS w va la) (hn : n < 4294967296) :
    Calls Tryd.prog 3 #[vb, .int .u32 (n : Int), va] w fun e w' => e = .returned (.bool true) ∧ Below w.heap.size w w' := by
  obtain ⟨A, c, rfl, hA⟩ := id hb
  obtain ⟨A2, c2, rfl, hA2⟩ := id ha
  have hbm : lb.length ≤ 9223372036854775807 := by have h := hA.1; have h2 := hA.2.1; simp only [maxLen] at h2; omega
  have ham : la.length ≤ 9223372036854775807 := by have h := hA2.1; have h2 := hA2.2.1; simp only [maxLen] at h2; omega
  clear hA hA2
  by_cases h1 : lb.length ≤ 300 ∧ la.length ≤ 300 ∧ n ≤ 2147483647
  · obtain ⟨h1, h2, h3⟩ := h1
    obtain ⟨i0, hi0, hz0, hz1, hz2⟩ := info_parts byte_info
    go_enter Tryd.func3, Tryd.ntmps3
    go_wp2_with (at_builtin; refine wpList_append_any _ rfl (.tmp 30) (.tmp 31) _ rfl w.heap.size 5 i0 _ 1 1 Tryd.underlying22 hi0 hz0 hz1 hz2 rfl (by omega) (.slice (some ⟨w.heap.size, 0, none⟩) 0 0) 0 [] rfl (World.ownsRow_made w #[] 0 (Nat.le_refl _) (by simp [maxLen]) rfl) _ A lb.length c (Lib.byteCells lb) rfl (reads_of_bs (hb.alloc _)) (byteCells_oneCell lb) (by simp only [maxLen]; omega) (by omega) (by simp) ?_; intro v1 w1 hown1 hg1 hat1)
    have hbw1 : Below w.heap.size w w1 := ((Below.refl _ _).alloc (Nat.le_refl _) _).grown hg1 (by simp) (by simp [Value.ownBlock])
    refine (little_any n hn w1).mono ?_
    rintro e w' ⟨rfl, rfl⟩
    have hr2 : Reads (w1.alloc (.cells (Lib.byteCells (Lib.leBytes 4 n)).toArray 5)) (w1.heap.size + 1) 1 (some ⟨w1.heap.size, 0, none⟩) 4 (Lib.byteCells (Lib.leBytes 4 n)) := by
      have := reads_of_bs (bs_new w1 (Lib.leBytes 4 n) 5 (by rw [Lib.leBytes_length]; simp [maxLen]))
      rw [Lib.leBytes_length] at this
      simpa using this
    have hown1' := hown1.alloc (.cells (Lib.byteCells (Lib.leBytes 4 n)).toArray 5)
    generalize (Lib.byteCells (Lib.leBytes 4 n)).toArray = cs at hr2 hown1' ⊢
    go_wp2_with (first | (at_builtin; refine wpList_append_any _ rfl (.tmp 32) (.tmp 34) _ rfl w.heap.size 5 i0 _ 1 1 Tryd.underlying22 hi0 hz0 hz1 hz2 rfl (by omega) v1 _ _ rfl hown1' _ _ _ _ (Lib.byteCells (Lib.leBytes 4 n)) rfl hr2 (byteCells_oneCell _) (by simp only [maxLen]; omega) (by omega) (by have := hbw1.size; simp; omega) ?_; intro v2 w2 hown2 hg2 hat2; have hbw2 : Below w.heap.size w w2 := (hbw1.alloc hbw1.size _).grown hg2 (by have := hbw1.size; simp; omega) (fun k hk => (hown1'.lt k hk).1)) | (at_builtin; refine wpList_append_any _ rfl (.tmp 35) (.tmp 36) _ rfl w.heap.size 5 i0 _ 1 1 Tryd.underlying22 hi0 hz0 hz1 hz2 rfl (by omega) v2 _ _ rfl hown2 _ _ _ _ (Lib.byteCells la) rfl (reads_of_bs (ha.below hbw2)) (byteCells_oneCell _) (by simp only [maxLen]; omega) (by omega) hbw2.size ?_; intro v3 w3 hown3 hg3 hat3; have hbw3 : Below w.heap.size w w3 := hbw2.grown hg3 hbw2.size (fun k hk => (hown2.lt k hk).1)))
    have hbs : BS w3 v3 (lb ++ Lib.leBytes 4 n ++ la) := bs_of_own (by rw [byteCells_append, byteCells_append]; simpa using hown3)
    have hnum := num_mid lb la n hn
    have hlen : (lb ++ Lib.leBytes 4 n ++ la).length = lb.length + 4 + la.length := by simp [Lib.leBytes_length]; omega
    refine (intAtImpl_ok v3 _ lb.length w3 hbs (by omega) (by omega) (by omega)).mono ?_
    rintro e w4 ⟨rfl, hb4⟩
    rw [hnum]
    clear hnum hlen hown1 hown1' hown2 hown3 hr2 hg1 hg2 hg3 hat1 hat2 hat3
    go_wp2
    go_ret
    exact ⟨rfl, hbw3.trans (hb4.mono hbw3.size)⟩
  · go_enter Tryd.func3, Tryd.ntmps3
    go_wp2
    all_goals first
      | (go_ret; exact ⟨rfl, Below.refl _ _⟩)
      | (exfalso; omega)
end Go.Proofs.YtopajiokchpgbaaDoor
