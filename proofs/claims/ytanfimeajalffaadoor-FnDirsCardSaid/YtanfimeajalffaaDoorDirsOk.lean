/-
  The contract of impl.Dirs on an index. Conditions: the bytes are an index of packages (IndexIs).
-/
import Derived.Test.YtanfimeajalffaaDoorWalk
namespace Go.Proofs.YtanfimeajalffaaDoor
open Go.RowKit
attribute [local go_sem ↓] Go.wp_at_zero Go.wp_at_succ

set_option maxHeartbeats 2000000 in
theorem implDirs_ok (v : Value) (l : List UInt8) (ps : List PkgD) (w : World) (hb : BS w v l) (hi : IndexIs l ps) (hn : ps.length ≤ 10) (hok : ∀ p ∈ ps, p.Ok) (hs : l.length ≤ 100000000) :
    Calls Tryd.prog 9 #[v] w fun e w' => ∃ A c, e = .returned (.tuple #[.slice A ps.length c, .bool true]) ∧ w'.ownsRow w.heap.size 9 1 (.slice A ps.length c) ps.length ((ps.map PkgD.dir).map Value.string) ∧ Below w.heap.size w w' := by
  obtain ⟨i0, hi0, hz0, hz1, hz2⟩ := info_parts' byte_info
  obtain ⟨i1, hi1, hz3, hz4, hz5⟩ := info_parts' text_info
  obtain ⟨A, c, rfl, hA⟩ := id hb
  clear hA
  have HB := Lib.hid hb
  have HC := Lib.hid (fun (v : Value) (W : World) (h : BS W v l) => zzDirs_ok v l ps W h hi hn hok)
  clear hb hi hok
  go_enter Tryd.func9, Tryd.ntmps9
  go_wp2_with (at_builtin; refine wpList_append_any _ rfl (.tmp 7) (.tmp 8) _ rfl w.heap.size 5 i0 _ 1 1 Tryd.underlying30 hi0 hz0 hz1 hz2 rfl (by omega) (.slice (some ⟨w.heap.size, 0, none⟩) 0 0) 0 [] rfl (World.ownsRow_made w #[] 0 (Nat.le_refl _) (by simp [maxLen]) rfl) _ A l.length c (Lib.byteCells l) rfl (reads_of_bs (HB.out.below ((Below.refl _ _).alloc (Nat.le_refl _) _))) (byteCells_oneCell l) (by simp only [maxLen]; omega) (by omega) (by simp) ?_; intro v1 w1 hown1 hg1 hat1)
  have hb1 : BS w1 v1 l := bs_of_own (by simpa using hown1)
  have hbw : Below w.heap.size w w1 := ((Below.refl _ _).alloc (Nat.le_refl _) _).grown hg1 (by simp) (by simp [Value.ownBlock])
  refine (HC.out v1 w1 hb1).mono ?_
  rintro e w2 ⟨A2, c2, rfl, ho2, hb2⟩
  have hbel := hbw.trans (hb2.mono hbw.size)
  have hsz := hbel.size
  have hrd := Reads.of_own ho2
  have hal : Below w2.heap.size w2 (w2.alloc (.cells #[] 9)).drew := ((Below.refl _ _).alloc (Nat.le_refl _) _).drew
  have HRD := Lib.hid (hrd.below hal)
  have hone : ∀ u ∈ (ps.map PkgD.dir).map Value.string, u.oneCell' = true := texts_one _
  clear hown1 hg1 hat1 hb1 hbw hb2 ho2 hrd hal
  go_wp2_with fail
  go_region_law (first | (refine step_append_any _ (by rfl) (.tmp 13) (.tmp 14) _ (by rfl) w.heap.size 9 i1 _ 1 16 Tryd.underlying24 hi1 hz3 hz4 hz5 (by rfl) (by decide) (.slice (some ⟨w2.heap.size, 0, none⟩) 0 0) 0 [] (by rfl) (own_void _ _ _ _ (by rfl) (by simpa using hsz)) w2.heap.size A2 ps.length c2 ((ps.map PkgD.dir).map Value.string) (by rfl) HRD.out hone (by simp [maxLen]; omega) (by omega) (by simp; omega) ?_; intro v3 w3 hown3 hg3 _; rw [Nat.zero_add, List.nil_append] at hown3; obtain ⟨A3, c3, rfl⟩ := own_form' hown3))
  go_wp2_with fail
  go_ret2
  exact ⟨A3, c3, rfl, hown3, ((hbel.alloc hsz _).drew).grown hg3 (by simp; omega) (by simp [Value.ownBlock]; omega)⟩
end Go.Proofs.YtanfimeajalffaaDoor
