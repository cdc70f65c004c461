/-
  The contract of spec.Counted: a text behind its length. Condition: a text of at most 1000 bytes.
-/
import Derived.Test.YtopajiokchpgbaaDoorLawIntAt
import Derived.Lib.VarintMem
import Derived.Deep.LoopGhost
namespace Go.Proofs.YtopajiokchpgbaaDoor
open Go.RowKit

/-- A text behind its length. -/
def cnt (s : ByteArray) : List UInt8 := Lib.uvarint s.size ++ s.data.toList

set_option maxHeartbeats 2000000 in
set_option maxRecDepth 100000 in
theorem counted_any (s : ByteArray) (w : World) (hs : s.size ≤ 1000) :
    Calls Tryd.prog 11 #[.string s] w fun e w' => ∃ v, e = .returned v ∧ w'.ownsRow w.heap.size 5 1 v (cnt s).length (Lib.byteCells (cnt s)) ∧ Below w.heap.size w w' := by
  obtain ⟨i0, hi0, hz0, hz1, hz2⟩ := info_parts byte_info
  have hlen := Lib.uvarint_length 1 s.size (by omega)
  go_enter Tryd.func11, Tryd.ntmps11
  go_wp2
  go_loopw [3, 4] (fun v n wr => ∃ (y : Nat) (pre : List UInt8), n = .int .i64 y ∧ y ≤ s.size ∧ Lib.uvarint s.size = pre ++ Lib.uvarint y ∧ wr.ownsRow w.heap.size 5 1 v pre.length (Lib.byteCells pre) ∧ Below w.heap.size w wr) (fun _ n _ => (intOf n).toNat)
  case atStart => exact ⟨s.size, [], rfl, Nat.le_refl _, rfl, World.ownsRow_made w #[] 0 (Nat.le_refl _) (by simp [maxLen]) rfl, (Below.refl _ _).alloc (Nat.le_refl _) _⟩
  case round =>
    obtain ⟨y, pre, rfl, hy, hsplit, hown1, hnx⟩ := hrel
    have hpl : pre.length + (Lib.uvarint y).length ≤ 2 := by
      have h2 := congrArg List.length hsplit
      rw [List.length_append] at h2
      omega
    have hyp := Lib.uvarint_pos y
    have HSP := Lib.hid hsplit
    clear hsplit
    have hsz := hnx.size
    by_cases h128 : 128 ≤ y
    · go_wp2_with (at_builtin; refine wpList_append_own _ rfl (.tmp 11) (.tmp 16) _ rfl w.heap.size 5 i0 (.int .u8 0) 1 1 Tryd.underlying22 hi0 hz0 hz1 hz2 rfl (by decide) _ _ _ rfl (hown1.alloc _) ⟨wr.heap.size, 0, none⟩ 1 1 [Value.int .u8 ((y : Int) % 128 + 128)] rfl rfl ?c1 ?c2 ?c3 ?c4 ?c5 ?_)
      case c1 =>
        intro j u hj
        match j, hj with
        | 0, hj => simp at hj; subst hj; simp [Addr.add]
      case c2 => intro u hu; simp at hu; subst hu; rfl
      case c3 => unfold maxLen; omega
      case c4 => omega
      case c5 => simp; omega
      intro v' w1 hown' hgrow _
      have hnx1 : Below w.heap.size w w1 := (hnx.alloc hsz _).grown hgrow (by simp; omega) (fun k hk => (hown1.lt k hk).1)
      go_wp2
      go_roundw
      case rel =>
        refine ⟨y / 128, pre ++ [(y % 128 + 128).toUInt8], by go_num, by omega, by rw [HSP.out, Lib.uvarint_big h128]; simp, ?_, hnx1⟩
        have ec : ((y % 128 + 128 : Nat) : Int) = (y : Int) % 128 + 128 := by omega
        rw [Lib.byteCells_snoc pre (by omega), List.length_append, List.length_singleton, ec]
        exact hown'
      case measure => simp [intOf]; omega
    · go_wp2_with (at_builtin; refine wpList_append_own _ rfl (.tmp 20) (.tmp 23) _ rfl w.heap.size 5 i0 (.int .u8 0) 1 1 Tryd.underlying22 hi0 hz0 hz1 hz2 rfl (by decide) _ _ _ rfl (hown1.alloc _) ⟨wr.heap.size, 0, none⟩ 1 1 [Value.int .u8 (y : Int)] rfl rfl ?d1 ?d2 ?d3 ?d4 ?d5 ?_)
      case d1 =>
        intro j u hj
        match j, hj with
        | 0, hj => simp at hj; subst hj; simp [Addr.add]
      case d2 => intro u hu; simp at hu; subst hu; rfl
      case d3 => unfold maxLen; omega
      case d4 => omega
      case d5 => simp; omega
      intro v' w1 hown' hgrow _
      have hnx1 : Below w.heap.size w w1 := (hnx.alloc hsz _).grown hgrow (by simp; omega) (fun k hk => (hown1.lt k hk).1)
      have hsm : Lib.uvarint y = [y.toUInt8] := Lib.uvarint_small (by omega)
      have hown2 : w1.ownsRow w.heap.size 5 1 v' (Lib.uvarint s.size).length (Lib.byteCells (Lib.uvarint s.size)) := by
        rw [HSP.out, hsm, Lib.byteCells_snoc pre (by omega), List.length_append, List.length_singleton]
        exact hown'
      clear hown' hgrow hown1 hsm HSP hyp hpl
      have HO := Lib.hid hown2
      clear hown2
      generalize hU : Lib.uvarint s.size = U at HO hlen
      have hUl : U.length ≤ 2 := hlen
      have HU := Lib.hid hU
      clear hU hlen
      go_wp2
      go_loopw [3, 5, 27] (fun v _ i wx => ∃ k : Nat, k ≤ s.size ∧ i = .int .i64 k ∧ wx.ownsRow w.heap.size 5 1 v (U.length + k) (Lib.byteCells (U ++ s.data.toList.take k)) ∧ Below w.heap.size w wx) (fun _ _ i _ => s.size - (intOf i).toNat)
      case atStart => exact ⟨0, Nat.zero_le _, rfl, by simpa using HO.out, hnx1⟩
      case round =>
        obtain ⟨k, hk, rfl, hownk, hnk⟩ := hrel
        have hszk := hnk.size
        by_cases hlt : k < s.size
        · have HTS : Hid (s.data.toList.take (k + 1) = s.data.toList.take k ++ [s[k]]) := by
            show s.data.toList.take (k + 1) = s.data.toList.take k ++ [s[k]]
            rw [List.take_succ_eq_append_getElem (by simpa using hlt)]
            rfl
          go_wp2_with (at_builtin; refine wpList_append_own _ rfl (.tmp 30) (.tmp 34) _ rfl w.heap.size 5 i0 (.int .u8 0) 1 1 Tryd.underlying22 hi0 hz0 hz1 hz2 rfl (by decide) _ _ _ rfl (hownk.alloc _) ⟨wr.heap.size, 0, none⟩ 1 1 [Value.int .u8 (s[k].toNat : Int)] rfl rfl ?e1 ?e2 ?e3 ?e4 ?e5 ?_)
          case e1 =>
            intro j u hj
            match j, hj with
            | 0, hj => simp at hj; subst hj; simp [Addr.add]
          case e2 => intro u hu; simp at hu; subst hu; rfl
          case e3 => unfold maxLen; omega
          case e4 => omega
          case e5 => simp; omega
          intro v2 w2 hown2 hgrow2 _
          have hnx2 : Below w.heap.size w w2 := (hnk.alloc hszk _).grown hgrow2 (by simp; omega) (fun j hj => (hownk.lt j hj).1)
          have hown3 : w2.ownsRow w.heap.size 5 1 v2 (U.length + (k + 1)) (Lib.byteCells (U ++ s.data.toList.take (k + 1))) := by
            rw [HTS.out, ← List.append_assoc, byteCells_append, show U.length + (k + 1) = U.length + k + 1 from rfl]
            exact hown2
          have HO3 := Lib.hid hown3
          clear hown2 hown3 hgrow2 hownk HTS
          go_wp2
          go_roundw
          case rel => exact ⟨k + 1, by omega, by go_num, HO3.out, hnx2⟩
          case measure => simp [intOf]; omega
        · have hkk : k = s.size := by omega
          have hfin : wr.ownsRow w.heap.size 5 1 u3 (cnt s).length (Lib.byteCells (cnt s)) := by
            have e1 : s.data.toList.take k = s.data.toList := List.take_of_length_le (by rw [hkk]; simp)
            rw [e1] at hownk
            unfold cnt
            rw [HU.out, List.length_append]
            have e2 : s.data.toList.length = k := by rw [hkk]; simp
            rw [e2]
            exact hownk
          clear hownk hkk
          go_wp2
          go_ret
          exact ⟨_, rfl, hfin, hnk⟩
end Go.Proofs.YtopajiokchpgbaaDoor
