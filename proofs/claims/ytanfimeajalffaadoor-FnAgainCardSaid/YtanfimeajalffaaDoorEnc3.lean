/-
  The encoder, more: a length written as bytes of seven bits each. Conditions: the premises of each theorem.
-/
import Derived.Test.YtanfimeajalffaaDoorEnc2
import Derived.Maps.Range
import Derived.Lib.VarintMem
import Derived.Deep.LoopGhost
namespace Go.Proofs.YtanfimeajalffaaDoor
open Go.RowKit

theorem Longer.refl {base : Nat} {w : World} {v : Value} {l : List UInt8} (h : w.ownsRow base 5 1 v l.length (Lib.byteCells l)) : Longer base w w v v l :=
  ⟨h, ⟨rfl, rfl, rfl, Nat.le_refl _, fun _ _ _ => rfl⟩, fun _ hk => .inl hk⟩

theorem Longer.trans {base : Nat} {a b c : World} {u v x : Value} {l m : List UInt8} (h : Longer base a b u v l) (k : Longer base b c v x m) : Longer base a c u x m := by
  refine ⟨k.1, h.2.1.andThen k.2.1 fun j hj => ?_, fun j hj => ?_⟩
  · rcases h.2.2 j hj with e | e
    · exact .inr e
    · exact .inl e
  · rcases k.2.2 j hj with e | e
    · exact h.2.2 j e
    · have := h.2.1.size
      exact .inr (by omega)

theorem Longer.ofAlloc {base : Nat} {a c : World} {o : Obj} {v x : Value} {m : List UInt8} (k : Longer base (a.alloc o) c v x m) : Longer base a c v x m := by
  refine ⟨k.1, ((World.grownBy_alloc a o none).but v.ownBlock).trans k.2.1, fun j hj => ?_⟩
  rcases k.2.2 j hj with e | e
  · exact .inl e
  · simp at e
    exact .inr (by omega)

set_option maxRecDepth 100000 in
theorem or128_small : ∀ k : Nat, k < 256 → bits .or .u8 (k : Int) 128 = (k : Int) % 128 + 128 := by decide +kernel
theorem or128 (y : Nat) : bits .or .u8 ((y : Int) % 256) 128 = (y : Int) % 128 + 128 := by
  have h := or128_small (y % 256) (Nat.mod_lt _ (by decide))
  have e : ((y % 256 : Nat) : Int) = (y : Int) % 256 := by omega
  rw [e] at h
  rw [h]
  omega

set_option maxHeartbeats 2000000 in
set_option maxRecDepth 100000 in
theorem appendUvarint_any (base n : Nat) (v : Value) (l : List UInt8) (w : World) (hn : n < 16384) (ho : w.ownsRow base 5 1 v l.length (Lib.byteCells l)) (hl : l.length ≤ 100000000) (hbs : base ≤ w.heap.size) :
    Calls Tryd.prog 75 #[v, .int .u64 (n : Int)] w fun e w' => ∃ v', e = .returned v' ∧ Longer base w w' v v' (l ++ Lib.uvarint n) := by
  obtain ⟨i0, hi0, hz0, hz1, hz2⟩ := info_parts' u8_info
  have hlen := Lib.uvarint_length 1 n (by omega)
  go_enter Tryd.func75, Tryd.ntmps75
  go_wp2_with fail
  go_loopw [0, 1] (fun b x wr => ∃ (y : Nat) (pre : List UInt8), x = .int .u64 y ∧ y ≤ n ∧ l ++ Lib.uvarint n = pre ++ Lib.uvarint y ∧ Longer base w wr v b pre) (fun _ x _ => (intOf x).toNat)
  case atStart => exact ⟨n, l, rfl, Nat.le_refl _, rfl, Longer.refl ho⟩
  case round =>
    obtain ⟨y, pre, rfl, hy, hsplit, hL⟩ := hrel
    have hpl : pre.length + (Lib.uvarint y).length ≤ l.length + 2 := by
      have h2 := congrArg List.length hsplit
      rw [List.length_append, List.length_append] at h2
      omega
    have hyp := Lib.uvarint_pos y
    have HSP := Lib.hid hsplit
    have hown1 := hL.1
    have hsz := hL.2.1.size
    have HL := Lib.hid hL
    clear hsplit hL
    by_cases h128 : 128 ≤ y
    · go_wp2_with (at_builtin; refine wpList_append_own_at _ rfl (.tmp 7) (.tmp 11) _ rfl base 5 i0 (.int .u8 0) 1 1 Tryd.underlying30 hi0 hz0 hz1 hz2 rfl (by decide) _ pre.length (Lib.byteCells pre) rfl (hown1.alloc _) ⟨wr.heap.size, 0, none⟩ 1 1 [Value.int .u8 (bits .or .u8 ((y : Int) % 256) 128)] rfl rfl (cell_one_new _ _ _) (one_cell _ rfl) (by unfold maxLen; omega) (by omega) (by simp; omega) ?_; intro v4 w4 hown4 hgrow4 _ hat4)
      have hL4 : Longer base (wr.alloc (.cells #[Value.int .u8 (bits .or .u8 ((y : Int) % 256) 128)] 5)) w4 u0 v4 (pre ++ [(y % 128 + 128).toUInt8]) := by
        have ec : ((y % 128 + 128 : Nat) : Int) = (y : Int) % 128 + 128 := by omega
        refine longer_of ?_ hgrow4 hat4
        rw [← bc_append, Lib.byteCells_snoc pre (by omega), ec, ← or128]
        exact hown4
      have HL4 := Lib.hid (HL.out.trans hL4.ofAlloc)
      clear hL4 hown4 hgrow4 hat4 hown1
      go_roundw
      case rel => exact ⟨y / 128, pre ++ [(y % 128 + 128).toUInt8], by go_num, by omega, by rw [HSP.out, Lib.uvarint_big h128]; simp, HL4.out⟩
      case measure => simp [intOf]; omega
    · go_wp2_with (at_builtin; refine wpList_append_own_at _ rfl (.tmp 15) (.tmp 18) _ rfl base 5 i0 (.int .u8 0) 1 1 Tryd.underlying30 hi0 hz0 hz1 hz2 rfl (by decide) _ pre.length (Lib.byteCells pre) rfl (hown1.alloc _) ⟨wr.heap.size, 0, none⟩ 1 1 [Value.int .u8 (y : Int)] rfl rfl (cell_one_new _ _ _) (one_cell _ rfl) (by unfold maxLen; omega) (by omega) (by simp; omega) ?_; intro v4 w4 hown4 hgrow4 _ hat4)
      have hL4 : Longer base (wr.alloc (.cells #[Value.int .u8 (y : Int)] 5)) w4 u0 v4 (l ++ Lib.uvarint n) := by
        rw [HSP.out, Lib.uvarint_small (by omega)]
        refine longer_of ?_ hgrow4 hat4
        rw [← bc_append, Lib.byteCells_snoc pre (by omega)]
        exact hown4
      have HL4 := Lib.hid (HL.out.trans hL4.ofAlloc)
      clear hL4 hown4 hgrow4 hat4 hown1
      go_ret
      exact ⟨_, rfl, HL4.out⟩
end Go.Proofs.YtanfimeajalffaaDoor
