/-
  Contracts of ZZStringAt and StringAt: the text at a place, with its error; what a length that is written is read as. Their conditions are the premises of each theorem.
-/
import Derived.Test.YtopajiokchpgbaaDoorStr
import Derived.Test.YtopajiokchpgbaaDoorCounted
namespace Go.Proofs.YtopajiokchpgbaaDoor
open Go.RowKit

/-- A length below 2^14, read again. -/
theorem uvarintDec_uvarint (n : Nat) (hn : n < 16384) (r : List UInt8) : Lib.uvarintDec (Lib.uvarint n ++ r) = (n, ((Lib.uvarint n).length : Int)) := by
  by_cases h : n < 128
  · rw [Lib.uvarint_small h]
    have e : (n.toUInt8).toNat = n := Lib.toUInt8_toNat (by omega)
    simp [Lib.uvarintDec, Lib.uvarintFrom, e, h]
  · rw [Lib.uvarint_big (by omega), Lib.uvarint_small (by omega)]
    have e1 : ((n % 128 + 128).toUInt8).toNat = n % 128 + 128 := Lib.toUInt8_toNat (by omega)
    have e2 : ((n / 128).toUInt8).toNat = n / 128 := Lib.toUInt8_toNat (by omega)
    generalize (n % 128 + 128).toUInt8 = b1 at e1 ⊢
    generalize (n / 128).toUInt8 = b2 at e2 ⊢
    have h1 : ¬ b1.toNat < 128 := by omega
    have h2 : b2.toNat < 128 := by omega
    have h3 : b1.toNat % 128 + b2.toNat * 128 = n := by omega
    simp [Lib.uvarintDec, Lib.uvarintFrom, h1, h2, h3]

/-- The first byte of a length of two bytes, alone: cut off. -/
theorem uvarintDec_cut (n : Nat) : Lib.uvarintDec [(n % 128 + 128).toUInt8] = (0, ((0 : Nat) : Int)) := by
  have e1 : ((n % 128 + 128).toUInt8).toNat = n % 128 + 128 := Lib.toUInt8_toNat (by omega)
  generalize (n % 128 + 128).toUInt8 = b1 at e1 ⊢
  have h1 : ¬ b1.toNat < 128 := by omega
  simp [Lib.uvarintDec, Lib.uvarintFrom, h1]

set_option maxHeartbeats 400000 in
theorem zzStringAt_ok (v : Value) (l : List UInt8) (off x k : Nat) (w : World) (hb : BS w v l) (ho : off < l.length) (hu : Lib.uvarintDec (l.drop off) = (x, (k : Int))) (hk : 0 < k) (hx : off + k + x ≤ l.length) :
    Calls Tryd.prog 13 #[v, .int .i64 (off : Int)] w fun e w' => e = .returned (.tuple #[.string ⟨((l.drop (off + k)).take x).toArray⟩, .nilIface]) ∧ Below w.heap.size w w' := by
  obtain ⟨A, c, rfl, hA⟩ := id hb
  clear hA
  have H := strAt_ok (w.heap.size + 1) (.slice A l.length c) l off x k ((w.alloc (.cells #[.nilIface] 36)).alloc (.cells #[.slice none 0 0, .slice A l.length c] 47)) (by simp [go_sem]) ((hb.alloc _).alloc _) ho hu hk hx
  generalize (⟨((l.drop (off + k)).take x).toArray⟩ : ByteArray) = s at H
  have H' := Lib.hid H
  clear H hu
  go_enter_defers Tryd.func13, Tryd.ntmps13
  go_wp2_with fail
  refine (H'.out).mono ?_
  rintro e w' ⟨rfl, rfl⟩
  go_wp2
  refine leaves_cons (f := 14) (args := #[.pointer (some ⟨w.heap.size, 0, none⟩)]) (by simp) (by simp [go_sem]) ?_
  refine (unprotect_idle _ _).mono ?_
  rintro e u' w'' ⟨rfl, rfl, rfl⟩
  simp [Leaves, settle, results, Tryd.results13, go_sem]
  exact ((Below.refl _ _).alloc (Nat.le_refl _) _).alloc (by simp) _

set_option maxHeartbeats 400000 in
theorem zzStringAt_bad (v : Value) (l : List UInt8) (off : Nat) (a : Addr) (w : World) (hE : w.cell? ⟨0, 0, none⟩ = some (.iface 56 (.pointer (some a)))) (hb : BS w v l)
    (hbad : l.length ≤ off ∨ ∃ x k, off < l.length ∧ Lib.uvarintDec (l.drop off) = (x, ((k : Nat) : Int)) ∧ (k = 0 ∨ (k + off ≤ l.length ∧ l.length < off + k + x)) ∧ x < 9223372036854775807) :
    Calls Tryd.prog 13 #[v, .int .i64 (off : Int)] w fun e w' => (∃ q, e = .returned (.tuple #[.string ByteArray.empty, .iface 56 q])) ∧ Below w.heap.size w w' := by
  obtain ⟨A, c, rfl, hA⟩ := id hb
  clear hA
  have h0 := World.block_lt_of_cell? w _ hE
  have hE2 : ((w.alloc (.cells #[.nilIface] 36)).alloc (.cells #[.slice none 0 0, .slice A l.length c] 47)).cell? ⟨0, 0, none⟩ = some (.iface 56 (.pointer (some a))) := by
    rw [World.cell?_alloc_lt _ _ _ (by simp), World.cell?_alloc_lt _ _ _ h0, hE]
  have H : Calls Tryd.prog 16 #[.pointer (some ⟨w.heap.size + 1, 0, none⟩), .int .i64 (off : Int)] ((w.alloc (.cells #[.nilIface] 36)).alloc (.cells #[.slice none 0 0, .slice A l.length c] 47))
      fun e w' => e = .panicked [{ v := .iface 56 (.pointer (some a)), recovered := false }] ∧ ((w.alloc (.cells #[.nilIface] 36)).alloc (.cells #[.slice none 0 0, .slice A l.length c] 47)) = w' := by
    rcases hbad with ho | ⟨x, k, ho, hu, hk, hx⟩
    · exact strAt_out (w.heap.size + 1) (.slice A l.length c) l off a _ hE2 (by simp [go_sem]) ((hb.alloc _).alloc _) (by omega)
    · exact strAt_bad (w.heap.size + 1) (.slice A l.length c) l off x k a _ hE2 (by simp [go_sem]) ((hb.alloc _).alloc _) ho hu hk hx
  have U := unprotect_caught ⟨w.heap.size, 0, none⟩ a .nilIface [] ((w.alloc (.cells #[.nilIface] 36)).alloc (.cells #[.slice none 0 0, .slice A l.length c] 47)) hE2 (by simp [go_sem]) (by simp [go_sem])
  have H' := Lib.hid H
  have U' := Lib.hid U
  clear H U hbad
  go_enter_defers Tryd.func13, Tryd.ntmps13
  go_wp2_with fail
  refine (H'.out).mono ?_
  rintro e w' ⟨rfl, rfl⟩
  go_wp2
  refine leaves_cons (f := 14) (args := #[.pointer (some ⟨w.heap.size, 0, none⟩)]) (by simp) (by simp [go_sem]) ?_
  refine (U'.out).mono ?_
  rintro e u' w'' ⟨rfl, rfl, rfl⟩
  simp [Leaves, settle, results, Tryd.results13, go_sem]
  refine ⟨rfl, ?_⟩
  exact (((Below.refl _ _).alloc (Nat.le_refl _) _).alloc (by simp) _).alloc (by simp; omega) _

set_option maxHeartbeats 400000 in
theorem stringAtImpl_ok (v : Value) (l : List UInt8) (off x k : Nat) (w : World) (hb : BS w v l) (ho : off < l.length) (hu : Lib.uvarintDec (l.drop off) = (x, (k : Int))) (hk : 0 < k) (hx : off + k + x ≤ l.length) (hs : l.length ≤ 1000000) :
    Calls Tryd.prog 10 #[v, .int .i64 (off : Int)] w fun e w' => e = .returned (.tuple #[.string ⟨((l.drop (off + k)).take x).toArray⟩, .bool true]) ∧ Below w.heap.size w w' := by
  obtain ⟨A, c, rfl, hA⟩ := id hb
  clear hA
  obtain ⟨i0, hi0, hz0, hz1, hz2⟩ := info_parts byte_info
  have HU := Lib.hid hu
  clear hu
  generalize hS : (⟨((l.drop (off + k)).take x).toArray⟩ : ByteArray) = s
  have HS := Lib.hid hS
  clear hS
  go_enter Tryd.func10, Tryd.ntmps10
  go_wp2_with (at_builtin; refine wpList_append_any _ rfl (.tmp 9) (.tmp 10) _ rfl w.heap.size 5 i0 _ 1 1 Tryd.underlying22 hi0 hz0 hz1 hz2 rfl (by omega) (.slice (some ⟨w.heap.size, 0, none⟩) 0 0) 0 [] rfl (World.ownsRow_made w #[] 0 (Nat.le_refl _) (by simp [maxLen]) rfl) _ A l.length c (Lib.byteCells l) rfl (reads_of_bs (hb.alloc _)) (byteCells_oneCell l) (by simp only [maxLen]; omega) (by omega) (by simp) ?_; intro v1 w1 hown1 hg1 hat1)
  have hb1 : BS w1 v1 l := bs_of_own (by simpa using hown1)
  have hbw : Below w.heap.size w w1 := ((Below.refl _ _).alloc (Nat.le_refl _) _).grown hg1 (by simp) (by simp [Value.ownBlock])
  have H := zzStringAt_ok v1 l off x k w1 hb1 ho HU.out hk hx
  rw [HS.out] at H
  refine H.mono ?_
  rintro e w2 ⟨rfl, hb2⟩
  clear H
  go_wp2
  go_quiet (fail)
  go_wp2
  go_ret2
  exact ⟨rfl, below_drewN (hbw.trans (hb2.mono hbw.size)) _⟩

set_option maxHeartbeats 400000 in
theorem stringAtImpl_bad (v : Value) (l : List UInt8) (off : Nat) (a : Addr) (w : World) (hE : w.cell? ⟨0, 0, none⟩ = some (.iface 56 (.pointer (some a)))) (hb : BS w v l) (hs : l.length ≤ 1000000)
    (hbad : l.length ≤ off ∨ ∃ x k, off < l.length ∧ Lib.uvarintDec (l.drop off) = (x, ((k : Nat) : Int)) ∧ (k = 0 ∨ (k + off ≤ l.length ∧ l.length < off + k + x)) ∧ x < 9223372036854775807) :
    Calls Tryd.prog 10 #[v, .int .i64 (off : Int)] w fun e w' => e = .returned (.tuple #[.string ByteArray.empty, .bool false]) ∧ Below w.heap.size w w' := by
  obtain ⟨A, c, rfl, hA⟩ := id hb
  clear hA
  obtain ⟨i0, hi0, hz0, hz1, hz2⟩ := info_parts byte_info
  have h0 := World.block_lt_of_cell? w _ hE
  have HB := Lib.hid hbad
  clear hbad
  go_enter Tryd.func10, Tryd.ntmps10
  go_wp2_with (at_builtin; refine wpList_append_any _ rfl (.tmp 9) (.tmp 10) _ rfl w.heap.size 5 i0 _ 1 1 Tryd.underlying22 hi0 hz0 hz1 hz2 rfl (by omega) (.slice (some ⟨w.heap.size, 0, none⟩) 0 0) 0 [] rfl (World.ownsRow_made w #[] 0 (Nat.le_refl _) (by simp [maxLen]) rfl) _ A l.length c (Lib.byteCells l) rfl (reads_of_bs (hb.alloc _)) (byteCells_oneCell l) (by simp only [maxLen]; omega) (by omega) (by simp) ?_; intro v1 w1 hown1 hg1 hat1)
  have hb1 : BS w1 v1 l := bs_of_own (by simpa using hown1)
  have hbw : Below w.heap.size w w1 := ((Below.refl _ _).alloc (Nat.le_refl _) _).grown hg1 (by simp) (by simp [Value.ownBlock])
  refine (zzStringAt_bad v1 l off a w1 ((hbw.cell h0).trans hE) hb1 HB.out).mono ?_
  rintro e w2 ⟨⟨q, rfl⟩, hb2⟩
  go_wp2
  go_quiet (fail)
  go_wp2
  go_ret2
  exact ⟨rfl, below_drewN (hbw.trans (hb2.mono hbw.size)) _⟩
end Go.Proofs.YtopajiokchpgbaaDoor
