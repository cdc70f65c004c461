/-
  A file's first list, read: plusBuildConstraints. Condition: what stands there (FileIs).
-/
import Derived.Test.YtanfimeajalffaaDoorOff
import Derived.Test.YtanfimeajalffaaDoorFill
import Derived.Test.YtanfimeajalffaaDoorGivenFile
namespace Go.Proofs.YtanfimeajalffaaDoor
open Go.RowKit

theorem map_take_succ {α : Type} (f : α → Value) (xs : List α) (k : Nat) (hk : k < xs.length) : (xs.take (k + 1)).map f = (xs.take k).map f ++ [f xs[k]] := by
  rw [List.take_add_one, List.getElem?_eq_getElem hk, List.map_append]
  rfl

theorem int_eq {k : IntKind} {a b : Int} (h : a = b) : Value.int k a = .int k b := by rw [h]

set_option maxHeartbeats 1000000 in
theorem sf_cons (gs gd p : Nat) (f : FileD) (b t : List UInt8) (w : World) (hs : SfAt w gs gd p) (hd : DecAt w gd b t) (h : FileIs b t p f) (hf : f.Ok) :
    Calls Tryd.prog 57 #[.pointer (some ⟨gs, 0, none⟩)] w fun e w' => ∃ A c, e = .returned (.slice A f.cons.length c) ∧ w'.ownsRow w.heap.size 9 1 (.slice A f.cons.length c) f.cons.length (f.cons.map Value.string) ∧ Below w.heap.size w w' := by
  obtain ⟨i0, hi0, hz0, hz1, hz2⟩ := info_parts' text_info
  have hm := hd.len.1
  have hc := hf.consL
  have hi := h.2.2.1.1.lt
  have C0 := Lib.hid (fun k => int_at gd (p + 4 * 9) f.cons.length b t (w.drewN k) hd (h.1 9 _ rfl))
  rw [show ((p + 4 * 9 : Nat) : Int) = (p : Int) + 36 from by omega] at C0
  have CS := Lib.hid (fun (W : World) (hW : Below w.heap.size w W) (k : Nat) (hk : k < f.cons.length) => string_at gd (p + 40 + 4 * k) f.cons[k] b t W (hd.below hW) (h.2.1 k _ (List.getElem?_eq_getElem hk)))
  have HS := Lib.hid (fun (W : World) (hW : Below w.heap.size w W) => Blk.below hs hW (Blk.lt hs))
  have HMK := Lib.hid (fun (W : World) => run_make (P := Tryd.prog) W 24 9 i0 _ Tryd.underlying24 hi0 hz0 .i64 .i64 (f.cons.length : Int) (f.cons.length : Int) (by omega) (Int.le_refl _) (by rw [hz2]; omega) (by omega))
  have c0 : w.cell? ⟨gs, 0, none⟩ = some (.pointer (some ⟨gd, 0, none⟩)) := Blk.cell hs 0
  have c1 : w.cell? ⟨gs, 1, none⟩ = some (.int .i64 (p : Int)) := Blk.cell hs 1
  clear hs hd h hf
  generalize f.cons = ss at *
  rw [hz1, Int.toNat_natCast] at HMK
  have hmk := HMK.out
  clear HMK
  go_enter Tryd.func57, Tryd.ntmps57
  go_wp2_with fail
  refine (C0.out 0).mono ?_
  rintro e w1 ⟨rfl, k, rfl⟩
  go_wp2_with fail
  have hF0 : Fills ((w.drewN k).alloc (.cells (madeCells #[.string ByteArray.empty] ss.length) 9)) w.heap.size 9 ss.length [] := by
    have := Fills.made (w.drewN k) (madeCells #[.string ByteArray.empty] ss.length) 9
    rw [size_madeCells] at this
    exact this
  have HF0 := Lib.hid hF0
  clear hF0 hmk c0 c1
  go_loopw [3, 6] (fun pos i wr => ∃ k : Nat, k ≤ ss.length ∧ pos = .int .i64 ((p + 40 + 4 * k : Nat) : Int) ∧ i = .int .i64 k ∧ Fills wr w.heap.size 9 ss.length ((ss.take k).map Value.string) ∧ Below w.heap.size w wr) (fun _ i _ => ss.length - (intOf i).toNat)
  case atStart => exact ⟨0, Nat.zero_le _, int_eq (by omega), rfl, HF0.out, (below_dn (Below.refl _ _) k).alloc (Nat.le_refl _) _⟩
  case round =>
    clear HF0
    obtain ⟨k, hk, rfl, rfl, hF, hB⟩ := hrel
    have hsz := hB.size
    by_cases hlt : k < ss.length
    · have C := Lib.hid (CS.out wr hB k hlt)
      have hq : p + 40 + 4 * k + 4 ≤ b.length := by omega
      have c0 : wr.cell? ⟨gs, 0, none⟩ = some (.pointer (some ⟨gd, 0, none⟩)) := Blk.cell (HS.out wr hB) 0
      have hkz : (0 : Int) ≤ (k : Int) := by omega
      have hkl : (k : Int) < (ss.length : Int) := by omega
      obtain ⟨u, hc, hfz⟩ := hF.cell k hlt
      have hP := hF.put (by rw [List.length_map, List.length_take]; omega) (.string ss[k])
      rw [List.length_map, List.length_take, Nat.min_eq_left (by omega), ← map_take_succ Value.string ss k hlt] at hP
      have hE : ((p + 40 + 4 * (k + 1) : Nat) : Int) = ((p + 40 + 4 * k : Nat) : Int) + 4 := by omega
      have HE := Lib.hid hE
      have HP := Lib.hid hP
      have HB := Lib.hid hB
      clear hE hP hF hB
      generalize p + 40 + 4 * k = q at *
      go_wp2_with fail
      refine C.out.mono ?_
      rintro e w2 ⟨rfl, n2, rfl⟩
      go_wp2_with fail
      go_roundw
      case rel => exact ⟨k + 1, by omega, int_eq (by have := HE.out; omega), by go_num, HP.out, (below_dn HB.out _).setCell (Nat.le_refl _) _⟩
      case measure => simp [intOf]; omega
    · have hkl : k = ss.length := by omega
      subst hkl
      rw [List.take_length] at hF
      have HO := Lib.hid (Fills.own (n := ss.length) (size := 1) (by rw [Nat.mul_one]; exact hF) (by simp) (Nat.le_refl _) (by unfold maxLen; omega))
      clear hF
      go_wp2_with fail
      go_ret
      exact ⟨_, _, rfl, HO.out, hB⟩
end Go.Proofs.YtanfimeajalffaaDoor
