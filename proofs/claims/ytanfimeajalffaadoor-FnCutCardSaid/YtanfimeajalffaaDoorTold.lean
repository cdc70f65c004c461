/-
  The contract of told: directives as an index tells them. Condition: a list that lies ahead, of at most 1000.
-/
import Derived.Test.YtanfimeajalffaaDoorGiven
namespace Go.Proofs.YtanfimeajalffaaDoor
open Go.RowKit

theorem idir_info : (Tryd.prog.info? 97).map (fun i => (i.zero, i.size, i.bytes)) = some (some (.agg #[.string ByteArray.empty, .string ByteArray.empty, .int .i64 0, .int .i64 0, .int .i64 0]), 5, 56) := by kernel_rfl

set_option maxHeartbeats 4000000 in
set_option maxRecDepth 100000 in
theorem told_any (B : Nat) (v : Value) (ds : List DirD) (w : World) (hB : B ≤ w.heap.size) (hl : ds.length ≤ 1000) (hd : DirsAt w B v ds) :
    Calls Tryd.prog 65 #[v] w fun e w' => ∃ A c, e = .returned (.slice A ds.length c) ∧ w'.ownsRow w.heap.size 97 5 (.slice A ds.length c) ds.length (ds.flatMap dirCells) ∧ Below w.heap.size w w' := by
  obtain ⟨i0, hi0, hz0, hz1, hz2⟩ := info_parts' idir_info
  obtain ⟨A, c, rfl, hrd⟩ := hd
  have HRD := Lib.hid hrd
  have hown0 : (w.alloc (.cells #[] 97)).ownsRow w.heap.size 97 5 (.slice (some ⟨w.heap.size, 0, none⟩) 0 0) 0 [] := World.ownsRow_made w #[] 0 (Nat.le_refl _) (by simp [maxLen]) rfl
  have hbw0 : Below w.heap.size w (w.alloc (.cells #[] 97)) := (Below.refl _ _).alloc (Nat.le_refl _) _
  have HOW0 := Lib.hid hown0
  clear hrd hown0
  go_enter Tryd.func65, Tryd.ntmps65
  go_wp2_with fail
  go_loopw [3, 5, 9] (fun v _ i wr => ∃ k : Nat, k ≤ ds.length ∧ i = .int .i64 k ∧ wr.ownsRow w.heap.size 97 5 v k ((ds.take k).flatMap dirCells) ∧ Below w.heap.size w wr) (fun _ _ i _ => ds.length - (intOf i).toNat)
  case atStart => exact ⟨0, Nat.zero_le _, rfl, HOW0.out, hbw0⟩
  case round =>
    obtain ⟨k, hk, rfl, hown, hF⟩ := hrel
    clear hbw0
    have hsz := hF.size
    by_cases hlt : k < ds.length
    · obtain ⟨ag, ao, rfl, hab, hc0, hc1, hc2, hc3, hc4⟩ := DirsAt.cells (HRD.out.below (hF.mono hB)) k hlt
      have hsn := Lib.hid (flat_snoc ds k hlt)
      generalize ds[k] = d at hc0 hc1 hc2 hc3 hc4 hsn
      have hown2 := (hown.alloc (.cells #[.string d.text, .string d.at_.fn, .int .i64 d.at_.o, .int .i64 d.at_.l, .int .i64 d.at_.c] 80)).alloc (.cells (dirCells d).toArray 97)
      have hnew := cells_new (wr.alloc (.cells #[.string d.text, .string d.at_.fn, .int .i64 d.at_.o, .int .i64 d.at_.l, .int .i64 d.at_.c] 80)) (dirCells d).toArray 97 (wr.heap.size + 1) (by simp)
      have hF2 : Below w.heap.size w ((wr.alloc (.cells #[.string d.text, .string d.at_.fn, .int .i64 d.at_.o, .int .i64 d.at_.l, .int .i64 d.at_.c] 80)).alloc (.cells (dirCells d).toArray 97)) := (hF.alloc hsz _).alloc (by simp; omega) _
      have hown0 := hown
      clear hown
      go_wp2_with (at_builtin; refine wpList_append_own_at _ rfl (.tmp 13) (.tmp 30) _ rfl w.heap.size 97 i0 _ 5 56 Tryd.underlying39 hi0 hz0 hz1 hz2 rfl (by decide) _ k _ rfl hown2 ⟨wr.heap.size + 1, 0, none⟩ 1 1 (dirCells d) rfl rfl hnew (dirs_one d) (by unfold maxLen; omega) (by omega) (by simp; omega) ?_; intro v4 w4 hown4 hgrow4 _ hat4)
      have hF4 : Below w.heap.size w w4 := hF2.grown hgrow4 hF2.size (fun j hj => (hown0.lt j hj).1)
      have hown5 : w4.ownsRow w.heap.size 97 5 v4 (k + 1) ((ds.take (k + 1)).flatMap dirCells) := by
        rw [hsn.out]
        exact hown4
      have HO5 := Lib.hid hown5
      clear hown4 hown5 hgrow4 hat4 hown0 hown2 hnew
      go_roundw
      case rel => exact ⟨k + 1, by omega, by go_num, HO5.out, hF4⟩
      case measure => simp [intOf]; omega
    · have hkl : k = ds.length := by omega
      subst hkl
      rw [List.take_length] at hown
      obtain ⟨A', c', hv⟩ := own_form' hown
      subst hv
      have HO := Lib.hid hown
      clear hown
      go_wp2_with fail
      go_ret
      exact ⟨A', c', rfl, HO.out, hF⟩
end Go.Proofs.YtanfimeajalffaaDoor
