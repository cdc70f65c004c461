/-
  Contracts of ZZIntAt, IntAt, Little: the number at a place, with its error. Their conditions are the premises of each theorem.
-/
import Derived.Test.YtopajiokchpgbaaDoorInt
namespace Go.Proofs.YtopajiokchpgbaaDoor
open Go.RowKit

theorem BS.alloc {w : World} {v : Value} {l : List UInt8} (h : BS w v l) (o : Obj) : BS (w.alloc o) v l :=
  h.keep fun p _ hu => (World.cell?_alloc_lt w o p (World.block_lt_of_cell? w p hu)).trans hu
theorem BS.drewN {w : World} {v : Value} {l : List UInt8} (h : BS w v l) (n : Nat) : BS (w.drewN n) v l := h

theorem byteCells_getElem (l : List UInt8) (j : Nat) (hj : j < l.length) : (Lib.byteCells l)[j]? = some (.int .u8 (l[j]).toNat) := by
  simp [Lib.byteCells, hj]
theorem byteCells_oneCell (l : List UInt8) : ∀ u ∈ Lib.byteCells l, u.oneCell' = true := by
  intro u hu
  simp only [Lib.byteCells, List.mem_map] at hu
  obtain ⟨b, _, rfl⟩ := hu
  rfl

/-- What holds bytes reads as the list of its cells. -/
theorem reads_of_bs {w : World} {A : Option Addr} {c : Nat} {l : List UInt8} (h : BS w (.slice A l.length c) l) : Reads w w.heap.size 1 A l.length (Lib.byteCells l) := by
  obtain ⟨A', c', hv, _, _, hp⟩ := h
  injection hv with hA _ _
  subst hA
  refine ⟨by simp [Lib.byteCells], fun h0 => ?_⟩
  obtain ⟨g, o, rfl, hcell⟩ := hp h0
  refine ⟨_, rfl, World.block_lt_of_cell? w _ (hcell 0 h0), fun j u hu => ?_⟩
  have hj : j < l.length := by
    have := (List.getElem?_eq_some_iff.1 hu).1
    simpa [Lib.byteCells] using this
  rw [byteCells_getElem l j hj] at hu
  have hadd : (⟨g, o, none⟩ : Addr).add j = ⟨g, o + j, none⟩ := by unfold Addr.add; split <;> simp_all
  rw [hadd, hcell j hj]
  exact hu

/-- What the call owns holds its bytes. -/
theorem bs_of_own {w : World} {base : Nat} {e : TypeId} {v : Value} {n : Nat} {l : List UInt8} (h : w.ownsRow base e 1 v n (Lib.byteCells l)) : BS w v l := by
  have hl : l.length = n := by simpa [Lib.byteCells] using h.1
  subst hl
  rcases h.2 with ⟨rfl, h0⟩ | ⟨g, cap, cur, rfl, _, hg, hc, hm, _, htk⟩
  · exact ⟨none, 0, by rw [h0], by omega, by simp [maxLen], fun hp => absurd hp (by omega)⟩
  · refine ⟨_, cap, rfl, hc, hm, fun _ => ⟨g, 0, rfl, fun j hj => ?_⟩⟩
    have hx := h.cells (g := g) rfl j _ (byteCells_getElem l j hj)
    have hadd : (⟨g, 0, none⟩ : Addr).add j = ⟨g, 0 + j, none⟩ := by unfold Addr.add; split <;> simp_all
    rw [hadd] at hx
    exact hx

theorem byte_info : (Tryd.prog.info? 5).map (fun i => (i.zero, i.size, i.bytes)) = some (some (.int .u8 0), 1, 1) := by kernel_rfl

theorem below_drewN {B : Nat} {a w : World} (h : Below B a w) (n : Nat) : Below B a (w.drewN n) := ⟨h.os, h.tape, h.output, h.size, h.block⟩

set_option maxHeartbeats 400000 in
theorem zzIntAt_ok (v : Value) (l : List UInt8) (off : Nat) (w : World) (hb : BS w v l) (h4 : off + 4 ≤ l.length) (hn : num l off < 2147483648) :
    Calls Tryd.prog 12 #[v, .int .i64 (off : Int)] w fun e w' => e = .returned (.tuple #[.int .i64 (num l off : Int), .nilIface]) ∧ Below w.heap.size w w' := by
  obtain ⟨A, c, rfl, hA⟩ := id hb
  clear hA
  have H := intAt_ok (w.heap.size + 1) (.slice A l.length c) l off ((w.alloc (.cells #[.nilIface] 36)).alloc (.cells #[.slice A l.length c, .slice none 0 0] 47)) (by simp [go_sem]) ((hb.alloc _).alloc _) h4 hn
  generalize num l off = x at hn H
  have H' := Lib.hid H
  clear H
  go_enter_defers Tryd.func12, Tryd.ntmps12
  go_wp2_with fail
  refine (H'.out).mono ?_
  rintro e w' ⟨rfl, k, rfl⟩
  go_wp2
  refine leaves_cons (f := 14) (args := #[.pointer (some ⟨w.heap.size, 0, none⟩)]) (by simp) (by simp [go_sem]) ?_
  refine (unprotect_idle _ _).mono ?_
  rintro e u' w'' ⟨rfl, rfl, rfl⟩
  simp [Leaves, settle, results, Tryd.results12, go_sem]
  repeat (first | exact Below.refl _ _ | refine below_drewN ?_ _ | refine Below.setCell ?_ (by simp) _ | refine Below.alloc ?_ (by simp <;> omega) _)

set_option maxHeartbeats 400000 in
theorem zzIntAt_out (v : Value) (l : List UInt8) (off : Int) (a : Addr) (w : World) (hE : w.cell? ⟨0, 0, none⟩ = some (.iface 56 (.pointer (some a)))) (hb : BS w v l) (h4 : off < 0 ∨ (l.length : Int) < off + 4)
    (hlo : -9223372036854 ≤ off) (hhi : off ≤ 9223372036854) :
    Calls Tryd.prog 12 #[v, .int .i64 off] w fun e w' => (∃ q, e = .returned (.tuple #[.int .i64 0, .iface 56 q])) ∧ Below w.heap.size w w' := by
  obtain ⟨A, c, rfl, hA⟩ := id hb
  clear hA
  have h0 := World.block_lt_of_cell? w _ hE
  have hE2 : ((w.alloc (.cells #[.nilIface] 36)).alloc (.cells #[.slice A l.length c, .slice none 0 0] 47)).cell? ⟨0, 0, none⟩ = some (.iface 56 (.pointer (some a))) := by
    rw [World.cell?_alloc_lt _ _ _ (by simp), World.cell?_alloc_lt _ _ _ h0, hE]
  have H := intAt_out (w.heap.size + 1) (.slice A l.length c) l off a ((w.alloc (.cells #[.nilIface] 36)).alloc (.cells #[.slice A l.length c, .slice none 0 0] 47)) hE2 (by simp [go_sem]) ((hb.alloc _).alloc _) h4 hlo hhi
  have U := unprotect_caught ⟨w.heap.size, 0, none⟩ a .nilIface [] ((w.alloc (.cells #[.nilIface] 36)).alloc (.cells #[.slice A l.length c, .slice none 0 0] 47)) hE2 (by simp [go_sem]) (by simp [go_sem])
  have H' := Lib.hid H
  have U' := Lib.hid U
  clear H U
  clear h4
  go_enter_defers Tryd.func12, Tryd.ntmps12
  go_wp2_with fail
  refine (H'.out).mono ?_
  rintro e w' ⟨rfl, rfl⟩
  go_wp2
  refine leaves_cons (f := 14) (args := #[.pointer (some ⟨w.heap.size, 0, none⟩)]) (by simp) (by simp [go_sem]) ?_
  refine (U'.out).mono ?_
  rintro e u' w'' ⟨rfl, rfl, rfl⟩
  simp [Leaves, settle, results, Tryd.results12, go_sem]
  exact (((Below.refl _ _).alloc (Nat.le_refl _) _).alloc (by simp) _).alloc (by simp; omega) _

set_option maxHeartbeats 400000 in
theorem intAtImpl_ok (v : Value) (l : List UInt8) (off : Nat) (w : World) (hb : BS w v l) (h4 : off + 4 ≤ l.length) (hn : num l off < 2147483648) (hs : l.length ≤ 1000000) :
    Calls Tryd.prog 7 #[v, .int .i64 (off : Int)] w fun e w' => e = .returned (.tuple #[.int .i64 (num l off : Int), .bool true]) ∧ Below w.heap.size w w' := by
  obtain ⟨A, c, rfl, hA⟩ := id hb
  clear hA
  obtain ⟨i0, hi0, hz0, hz1, hz2⟩ := info_parts byte_info
  go_enter Tryd.func7, Tryd.ntmps7
  go_wp2_with (at_builtin; refine wpList_append_any _ rfl (.tmp 9) (.tmp 10) _ rfl w.heap.size 5 i0 _ 1 1 Tryd.underlying22 hi0 hz0 hz1 hz2 rfl (by omega) (.slice (some ⟨w.heap.size, 0, none⟩) 0 0) 0 [] rfl (World.ownsRow_made w #[] 0 (Nat.le_refl _) (by simp [maxLen]) rfl) (_) A l.length c (Lib.byteCells l) rfl (reads_of_bs (hb.alloc _)) (byteCells_oneCell l) (by simp only [maxLen]; omega) (by omega) (by simp) ?_; intro v1 w1 hown1 hg1 hat1)
  have hb1 : BS w1 v1 l := bs_of_own (by simpa using hown1)
  have hbw : Below w.heap.size w w1 := ((Below.refl _ _).alloc (Nat.le_refl _) _).grown hg1 (by simp) (by simp [Value.ownBlock])
  refine (zzIntAt_ok v1 l off w1 hb1 h4 hn).mono ?_
  rintro e w2 ⟨rfl, hb2⟩
  go_wp2
  go_quiet (fail)
  go_wp2
  go_ret2
  exact ⟨rfl, below_drewN (hbw.trans (hb2.mono hbw.size)) _⟩

set_option maxHeartbeats 400000 in
theorem intAtImpl_out (v : Value) (l : List UInt8) (off : Int) (a : Addr) (w : World) (hE : w.cell? ⟨0, 0, none⟩ = some (.iface 56 (.pointer (some a)))) (hb : BS w v l) (h4 : off < 0 ∨ (l.length : Int) < off + 4) (hs : l.length ≤ 1000000)
    (hlo : -9223372036854 ≤ off) (hhi : off ≤ 9223372036854) :
    Calls Tryd.prog 7 #[v, .int .i64 off] w fun e w' => e = .returned (.tuple #[.int .i64 0, .bool false]) ∧ Below w.heap.size w w' := by
  obtain ⟨A, c, rfl, hA⟩ := id hb
  clear hA
  obtain ⟨i0, hi0, hz0, hz1, hz2⟩ := info_parts byte_info
  have h0 := World.block_lt_of_cell? w _ hE
  have H4 := Lib.hid h4
  clear h4
  go_enter Tryd.func7, Tryd.ntmps7
  go_wp2_with (at_builtin; refine wpList_append_any _ rfl (.tmp 9) (.tmp 10) _ rfl w.heap.size 5 i0 _ 1 1 Tryd.underlying22 hi0 hz0 hz1 hz2 rfl (by omega) (.slice (some ⟨w.heap.size, 0, none⟩) 0 0) 0 [] rfl (World.ownsRow_made w #[] 0 (Nat.le_refl _) (by simp [maxLen]) rfl) _ A l.length c (Lib.byteCells l) rfl (reads_of_bs (hb.alloc _)) (byteCells_oneCell l) (by simp only [maxLen]; omega) (by omega) (by simp) ?_; intro v1 w1 hown1 hg1 hat1)
  have hb1 : BS w1 v1 l := bs_of_own (by simpa using hown1)
  have hbw : Below w.heap.size w w1 := ((Below.refl _ _).alloc (Nat.le_refl _) _).grown hg1 (by simp) (by simp [Value.ownBlock])
  refine (zzIntAt_out v1 l off a w1 ((hbw.cell h0).trans hE) hb1 H4.out hlo hhi).mono ?_
  rintro e w2 ⟨⟨q, rfl⟩, hb2⟩
  go_wp2
  go_quiet (fail)
  go_wp2
  go_ret2
  exact ⟨rfl, below_drewN (hbw.trans (hb2.mono hbw.size)) _⟩

theorem little_any (n : Nat) (hn : n < 4294967296) (w : World) :
    Calls Tryd.prog 8 #[.int .u32 (n : Int)] w fun e w' => e = .returned (.slice (some ⟨w.heap.size, 0, none⟩) 4 4) ∧ w' = w.alloc (.cells (Lib.byteCells (Lib.leBytes 4 n)).toArray 5) := by
  have e0 : ((n % 256 : Nat) : Int) = (n : Int) % 256 := by omega
  have e1 : ((n / 256 % 256 : Nat) : Int) = (n : Int) / 256 % 256 := by omega
  have e2 : ((n / 256 / 256 % 256 : Nat) : Int) = (n : Int) / 65536 % 256 := by omega
  have e3 : ((n / 256 / 256 / 256 % 256 : Nat) : Int) = (n : Int) / 16777216 := by omega
  have hb : Lib.byteCells (Lib.leBytes 4 n) = [Value.int .u8 ((n : Int) % 256), Value.int .u8 ((n : Int) / 256 % 256), Value.int .u8 ((n : Int) / 65536 % 256), Value.int .u8 ((n : Int) / 16777216)] := by
    simp only [Lib.byteCells, Lib.leBytes, List.map, Lib.toUInt8_mod, e0, e1, e2, e3]
  have HB := Lib.hid hb
  clear hb e0 e1 e2 e3
  go_enter Tryd.func8, Tryd.ntmps8
  go_wp2
  go_ret
  refine ⟨rfl, ?_⟩
  rw [HB.out]
end Go.Proofs.YtopajiokchpgbaaDoor
