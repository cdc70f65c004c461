/-
  The contract of fromBytes on the bytes of an index. Conditions: the bytes are an index of packages (IndexIs).
-/
import Derived.Test.YtanfimeajalffaaGreatDoorMod
import Derived.Test.YtanfimeajalffaaGreatDoorEncMod2
import Derived.Test.YtanfimeajalffaaGreatDoorGC
namespace Go.Proofs.YtanfimeajalffaaGreatDoor
open Go.RowKit
attribute [local go_sem ↓] Go.wp_at_zero Go.wp_at_succ

/-- The bytes of a list, as numbers. -/
def nums (l : List UInt8) : List Int := l.map fun b => (b.toNat : Int)
theorem bytesOf_nums (l : List UInt8) : Lib.bytesOf (nums l) = l := by
  unfold Lib.bytesOf nums
  rw [List.map_map]
  conv => rhs; rw [← List.map_id l]
  apply List.map_congr_left
  intro b _
  simp
theorem nums_len (l : List UInt8) : (nums l).length = l.length := by simp [nums]
theorem nums_get (l : List UInt8) (j : Nat) (hj : j < l.length) : (nums l).getD j 0 = ((l[j]).toNat : Int) := by
  unfold nums
  rw [List.getD_eq_getElem?_getD, List.getElem?_map, List.getElem?_eq_getElem hj]
  rfl
theorem bytesIn_of {w : World} {A : Option Addr} {c : Nat} {l : List UInt8} (h : BS w (.slice A l.length c) l) : Lib.BytesIn w A l.length (nums l) := by
  obtain ⟨A', c', hv, _, _, hp⟩ := h
  injection hv with hA _ _
  subst hA
  intro h0
  obtain ⟨g, o, e, hc⟩ := hp h0
  exact ⟨g, o, e, fun i hi => by rw [hc i hi, nums_get l i hi]⟩
/-- bytes.HasPrefix, of the text that an index begins with. -/
theorem hasMagic_any (A : Option Addr) (c : Nat) (l : List UInt8) (w : World) (hb : BS w (.slice A l.length c) l) (g : Nat) (hg : ∀ i, w.cell? ⟨g, i, none⟩ = magicCs[i]?) :
    Calls Tryz.prog 37 #[.slice A l.length c, .slice (some ⟨g, 0, none⟩) 12 12] w fun e w' => e = .returned (.bool (Lib.hasPrefix l magic)) ∧ w' = w := by
  have hc : l.length ≤ c := by
    obtain ⟨A', c', hv, hc, _⟩ := hb
    injection hv with _ _ hcc
    omega
  have h2 : Lib.BytesIn w (some ⟨g, 0, none⟩) 12 (nums magic) := fun _ => ⟨g, 0, rfl, fun i hi => by
    rw [Nat.zero_add, hg i]
    have hl : i < magic.length := hi
    rw [nums_get magic i hl]
    rcases (by omega : i = 0 ∨ i = 1 ∨ i = 2 ∨ i = 3 ∨ i = 4 ∨ i = 5 ∨ i = 6 ∨ i = 7 ∨ i = 8 ∨ i = 9 ∨ i = 10 ∨ i = 11) with rfl | rfl | rfl | rfl | rfl | rfl | rfl | rfl | rfl | rfl | rfl | rfl <;> rfl⟩
  have := Tryz.bytes_HasPrefix_all A (some ⟨g, 0, none⟩) l.length c 12 12 (nums l) (nums magic) w (nums_len l) rfl hc (bytesIn_of hb) h2
  rw [bytesOf_nums, bytesOf_nums] at this
  exact this

set_option maxHeartbeats 4000000 in
set_option maxRecDepth 100000 in
/-- .. on bytes that do not begin as an index does. -/
theorem fromBytes_bad (r : ByteArray) (v : Value) (l : List UInt8) (a : Addr) (w : World) (hE : w.cell? ⟨0, 0, none⟩ = some (.iface 144 (.pointer (some a)))) (hb : BS w v l) (hn : Lib.hasPrefix l magic = false) :
    Calls Tryz.prog 26 #[.string r, v] w fun e w' => e = .returned (.tuple #[.pointer none, .iface 144 (.pointer (some a))]) ∧ Below w.heap.size w w' := by
  obtain ⟨A, c, rfl, hA⟩ := id hb
  clear hA
  have h0 := World.block_lt_of_cell? w _ hE
  have HM := Lib.hid (fun (W : World) (hW : BS W (.slice A l.length c) l) (g : Nat) (hg : ∀ i, W.cell? ⟨g, i, none⟩ = magicCs[i]?) => hasMagic_any A c l W hW g hg)
  rw [hn] at HM
  have HB := Lib.hid hb
  clear hb hn
  have hconv := Joins.run_convert_bytes_const_at (P := Tryz.prog) (w.alloc (.cells #[.nilIface] 47)) 26 5 magicCs 12 12 (w.heap.size + 1) (by simp) Tryz.underlying26 Tryz.underlying5
  have hBel : Below w.heap.size w ((w.alloc (.cells #[.nilIface] 47)).alloc (.cells magicCs 5 (12, 13))) := ((Below.refl _ _).alloc (Nat.le_refl _) _).alloc (by simp) _
  have hmc : ∀ i, ((w.alloc (.cells #[.nilIface] 47)).alloc (.cells magicCs 5 (12, 13))).cell? ⟨w.heap.size + 1, i, none⟩ = magicCs[i]? := fun i => by
    have := World.cell?_alloc_mark (w.alloc (.cells #[.nilIface] 47)) magicCs 5 (12, 13) i
    simpa using this
  have C1 := Lib.hid (HM.out _ (HB.out.below hBel) (w.heap.size + 1) hmc)
  have HBel := Lib.hid hBel
  clear hmc hBel
  go_enter_defers Tryz.func26, Tryz.ntmps26
  go_wp2_with fail
  refine C1.out.mono ?_
  rintro e w' ⟨rfl, rfl⟩
  clear hconv
  go_wp2_with fail
  have hHeld : ((w.alloc (.cells #[.nilIface] 47)).alloc (.cells magicCs 5 (12, 13))).drew.cell? ⟨0, 0, none⟩ = some (.iface 144 (.pointer (some a))) := (HBel.out.cell (p := ⟨0, 0, none⟩) h0).trans hE
  refine wp_region_m 2 (fun W => W.cell? ⟨0, 0, none⟩ = some (.iface 144 (.pointer (some a)))) (by kernel_rfl) ?_
  refine wpAnyM_take (i := 0) (oi := ⟨some 14, _, _, _, _, _⟩) (v := (.iface 144 (.pointer (some a)))) rfl (by kernel_rfl) (by kernel_rfl) (by kernel_rfl) (by kernel_rfl) (by decide) (fun _ _ _ h => h) (by assumption) (Or.inl ⟨by rfl, ?_⟩) ?_
  · intro W hSW
    (try dsimp only at hSW)
    go_simp
  (try go_frame)
  refine wpAnyM_take (i := 1) (oi := ⟨some 4, _, _, _, _, _⟩) (v := (.pointer none)) rfl (by kernel_rfl) (by kernel_rfl) (by kernel_rfl) (by kernel_rfl) (by decide) (fun _ _ _ h => h) (by assumption) (Or.inl ⟨by rfl, ?_⟩) ?_
  · intro W hSW
    (try dsimp only at hSW)
    go_simp
  (try go_frame)
  refine wpAnyM_only (i := 2) (oi := ⟨none, _, _, _, _, _⟩) rfl (by kernel_rfl) (fun K hK => ?_)
  go_simp
  refine hK.out _ _ (.inl rfl) ?_
  clear hK K
  (try go_frame)
  refine wpAnyM_done (by kernel_rfl) (NoPanic.normal ?_)
  clear hHeld
  go_wp2_with fail
  refine leaves_cons (f := 27) (args := #[.pointer (some ⟨w.heap.size, 0, none⟩)]) (by simp) (by simp [go_sem]) ?_
  refine (unprotect_idle _ _).mono ?_
  rintro e u' w'' ⟨rfl, rfl, rfl⟩
  simp [Leaves, settle, results, Tryz.results26, go_sem]
  repeat (first | exact Below.refl _ _ | refine below_dn ?_ _ | refine Below.drew ?_ | refine Below.setCell ?_ (by simp) _ | refine Below.alloc ?_ (by simp <;> omega) _)

/-- What an index's bytes say of their two parts. -/
theorem IndexIs.parts {l : List UInt8} {ps : List PkgD} (h : IndexIs l ps) (hn : ps.length ≤ 10) (hok : ∀ p ∈ ps, p.Ok) :
    ∃ b t, l = b ++ t ∧ Idx b t ps ∧ Lib.hasPrefix l magic = true ∧ IntIs l 12 b.length ∧ IntIs b 16 ps.length ∧ t.head? = some 0 ∧ t.getLast? = some 255 ∧ 20 + 8 * ps.length ≤ b.length ∧ l.length ≤ 80000000 := by
  obtain ⟨b, t, e, h1, h2, h3, h4, h5, h6, h7, h8⟩ := h
  refine ⟨b, t, e, ⟨hn, hok, fun k p hp => (h8 k p hp).1, fun k p hp => ?_⟩, ?_, ?_, h3, h4, h5, h6, h7⟩
  · obtain ⟨off, hi, a, _, c⟩ := (h8 k p hp).2
    exact ⟨off, hi, a, c⟩
  · unfold Lib.hasPrefix
    rw [List.isPrefixOf_iff_prefix, e, ← h1]
    exact (List.take_prefix 12 b).trans (List.prefix_append b t)
  · refine h2.keep fun i a c => ?_
    rw [e, List.getElem?_append_left (by omega)]

/-- What fromBytes gives: a module, whose index is in memory. -/
def IsMod (ps : List PkgD) (w : World) (e : Ending) (w' : World) : Prop := ∃ gm gd b t, e = .returned (.tuple #[.pointer (some ⟨gm, 0, none⟩), .nilIface]) ∧ ModAt w' gm gd ps.length ∧ DecAt w' gd b t ∧ Idx b t ps ∧ Below w.heap.size w w'

set_option maxHeartbeats 8000000 in
set_option maxRecDepth 100000 in
/-- .. on the bytes of an index. -/
theorem fromBytes_ok (r : ByteArray) (v : Value) (l : List UInt8) (ps : List PkgD) (w : World) (hb : BS w v l) (hi : IndexIs l ps) (hn : ps.length ≤ 10) (hok : ∀ p ∈ ps, p.Ok) :
    Calls Tryz.prog 26 #[.string r, v] w (IsMod ps w) := by
  obtain ⟨b, t, rfl, hidx, hpre, h12, h16, hh, hl, hlen, hmax⟩ := hi.parts hn hok
  obtain ⟨A, c, rfl, hA⟩ := id hb
  obtain ⟨hc1, hc2, hp⟩ := hA
  rw [List.length_append] at hc1 hmax
  obtain ⟨g, o, rfl, hcell⟩ := hp (by rw [List.length_append]; omega)
  have HM := Lib.hid (fun (W : World) (hW : BS W (.slice (some ⟨g, o, none⟩) (b ++ t).length c) (b ++ t)) (g' : Nat) (hg : ∀ i, W.cell? ⟨g', i, none⟩ = magicCs[i]?) => hasMagic_any _ c (b ++ t) W hW g' hg)
  rw [hpre] at HM
  have HB := Lib.hid hb
  have HI := Lib.hid hidx
  have H16 := Lib.hid h16
  have hconv := Joins.run_convert_bytes_const_at (P := Tryz.prog) (w.alloc (.cells #[.nilIface] 47)) 26 5 magicCs 12 12 (w.heap.size + 1) (by simp) Tryz.underlying26 Tryz.underlying5
  have hBel : Below w.heap.size w ((w.alloc (.cells #[.nilIface] 47)).alloc (.cells magicCs 5 (12, 13))) := ((Below.refl _ _).alloc (Nat.le_refl _) _).alloc (by simp) _
  have hmc : ∀ i, ((w.alloc (.cells #[.nilIface] 47)).alloc (.cells magicCs 5 (12, 13))).cell? ⟨w.heap.size + 1, i, none⟩ = magicCs[i]? := fun i => by
    have := World.cell?_alloc_mark (w.alloc (.cells #[.nilIface] 47)) magicCs 5 (12, 13) i
    simpa using this
  have C1 := Lib.hid (HM.out _ (HB.out.below hBel) (w.heap.size + 1) hmc)
  obtain ⟨W3, HW3⟩ : ∃ W3, W3 = ((w.alloc (.cells #[.nilIface] 47)).alloc (.cells magicCs 5 (12, 13))).alloc (.cells #[.slice (some ⟨g, o, none⟩) (b ++ t).length c, .slice none 0 0] 104) := ⟨_, rfl⟩
  have hBel3 : Below w.heap.size w W3 := by rw [HW3]; exact hBel.alloc (by simp; omega) _
  have hE3 : Blk W3 w.heap.size 47 #[.nilIface] := by rw [HW3]; exact ((Blk.new w _ _).alloc _).alloc _
  have hD3 : Blk W3 (w.heap.size + 2) 104 #[.slice (some ⟨g, o, none⟩) (b ++ t).length c, .slice none 0 0] := by
    rw [HW3]
    have := Blk.new ((w.alloc (.cells #[.nilIface] 47)).alloc (.cells magicCs 5 (12, 13))) 104 #[.slice (some ⟨g, o, none⟩) (b ++ t).length c, .slice none 0 0]
    simpa using this
  have hBS0 : BS W3 (.slice none 0 0) [] := ⟨none, 0, rfl, Nat.le_refl _, by simp [maxLen], fun h => absurd h (by simp)⟩
  have C2 := Lib.hid (int_at (w.heap.size + 2) 12 b.length (b ++ t) [] W3 ⟨_, _, hD3, hb.below hBel3, hBS0⟩ h12)
  have HBel3 := Lib.hid hBel3
  have HE3 := Lib.hid hE3
  have HD3 := Lib.hid hD3
  have HW := Lib.hid HW3
  have HH := Lib.hid hh
  have HL := Lib.hid hl
  have HCELL := Lib.hid hcell
  clear hmc hBel hBel3 hE3 hD3 HW3 hh hl hcell hb hidx h16 hpre hp hi hok hBS0
  rw [List.length_append] at *
  have hbn : b.length ≤ b.length + t.length := by omega
  have HN : Hid (b.length + t.length = b.length + t.length) := Lib.hid rfl
  have hN0 : t.length = b.length + t.length - b.length := by omega
  have HN0 := Lib.hid hN0
  clear hN0
  have hlen20 : ¬ (b.length : Int) < 20 := by omega
  generalize hN : b.length + t.length = n at *
  have hnb : ¬ (n : Int) < (b.length : Int) := by omega
  have HNN := Lib.hid hN
  clear hN HN
  go_enter_defers Tryz.func26, Tryz.ntmps26
  go_wp2_with fail
  refine C1.out.mono ?_
  rintro e w' ⟨rfl, rfl⟩
  clear hconv
  go_wp2_with fail
  rw [show ((w.alloc (.cells #[.nilIface] 47)).alloc (.cells magicCs 5 (12, 13))).alloc (.cells #[.slice (some ⟨g, o, none⟩) n c, .slice none 0 0] 104) = W3 from HW.out.symm]
  refine C2.out.mono ?_
  rintro e w' ⟨rfl, k3, rfl⟩
  have q0 : W3.cell? ⟨w.heap.size + 2, 0, none⟩ = some (.slice (some ⟨g, o, none⟩) n c) := HD3.out.cell 0
  have hHeld : (W3.drewN k3).drew.cell? ⟨w.heap.size + 1 + 1, 0, none⟩ = some (.slice (some ⟨g, o, none⟩) n c) := q0
  have r0 : W3.frozen? ⟨w.heap.size + 1 + 1, 0, none⟩ = false := HD3.out.frozen 0
  have q1 : W3.cell? ⟨w.heap.size + 1 + 1, 1, none⟩ = some (.slice none 0 0) := HD3.out.cell 1
  have r1 : W3.frozen? ⟨w.heap.size + 1 + 1, 1, none⟩ = false := HD3.out.frozen 1
  have hb0 : (0 : Int) ≤ (b.length : Int) := by omega
  have hbc : (b.length : Int) ≤ (c : Int) := by omega
  have hbn' : (b.length : Int) ≤ (n : Int) := by omega
  have hcb : ¬ c = b.length := by
    intro e
    have h1 := HNN.out
    have h2 := HH.out
    cases t with
    | nil => cases h2
    | cons x t => simp at h1; omega
  clear C1 C2 HW
  go_wp2_with fail
  refine wp_region_n 13 (fun W => W.cell? ⟨w.heap.size + 1 + 1, 0, none⟩ = some (.slice (some ⟨g, o, none⟩) n c)) (by kernel_rfl) ?_
  refine wpAnyN_pure (i := 0) (oi := ⟨some 32, _, _, _, _, _⟩) (v := (.pointer (some ⟨w.heap.size + 1 + 1, 0, none⟩))) rfl (by kernel_rfl) (by kernel_rfl) (by kernel_rfl) (by decide) (fun _ _ _ h => h) (by first | exact .inr (by assumption) | exact .inl (by kernel_rfl)) (Or.inl ⟨by rfl, ?_⟩) ?_
  · intro W hSW
    (try dsimp only at hSW)
    go_simp
  (try go_frame)
  refine wpAnyN_pure (i := 1) (oi := ⟨some 33, _, _, _, _, _⟩) (v := (.pointer (some ⟨w.heap.size + 1 + 1, 0, none⟩))) rfl (by kernel_rfl) (by kernel_rfl) (by kernel_rfl) (by decide) (fun _ _ _ h => h) (by first | exact .inr (by assumption) | exact .inl (by kernel_rfl)) (Or.inl ⟨by rfl, ?_⟩) ?_
  · intro W hSW
    (try dsimp only at hSW)
    go_simp
  (try go_frame)
  refine wpAnyN_pure (i := 2) (oi := ⟨some 34, _, _, _, _, _⟩) (v := (.slice (some ⟨g, o, none⟩) n c)) rfl (by kernel_rfl) (by kernel_rfl) (by kernel_rfl) (by decide) (fun _ _ _ h => h) (by first | exact .inr (by assumption) | exact .inl (by kernel_rfl)) (Or.inl ⟨by rfl, ?_⟩) ?_
  · intro W hSW
    (try dsimp only at hSW)
    go_simp
  (try go_frame)
  refine wpAnyN_pure (i := 3) (oi := ⟨some 35, _, _, _, _, _⟩) (v := (.int .i64 (b.length : Int))) rfl (by kernel_rfl) (by kernel_rfl) (by kernel_rfl) (by decide) (fun _ _ _ h => h) (by first | exact .inr (by assumption) | exact .inl (by kernel_rfl)) (Or.inl ⟨by rfl, ?_⟩) ?_
  · intro W hSW
    (try dsimp only at hSW)
    go_simp
  (try go_frame)
  refine wpAnyN_pure (i := 4) (oi := ⟨some 36, _, _, _, _, _⟩) (v := (.slice (some ⟨g, o, none⟩) b.length c)) rfl (by kernel_rfl) (by kernel_rfl) (by kernel_rfl) (by decide) (fun _ _ _ h => h) (by first | exact .inr (by assumption) | exact .inl (by kernel_rfl)) (Or.inl ⟨by rfl, ?_⟩) ?_
  · intro W hSW
    (try dsimp only at hSW)
    go_simp
  (try go_frame)
  refine wpAnyN_pure (i := 5) (oi := ⟨some 37, _, _, _, _, _⟩) (v := (.pointer (some ⟨w.heap.size + 1 + 1, 0, none⟩))) rfl (by kernel_rfl) (by kernel_rfl) (by kernel_rfl) (by decide) (fun _ _ _ h => h) (by first | exact .inr (by assumption) | exact .inl (by kernel_rfl)) (Or.inl ⟨by rfl, ?_⟩) ?_
  · intro W hSW
    (try dsimp only at hSW)
    go_simp
  (try go_frame)
  refine wpAnyN_pure (i := 6) (oi := ⟨some 38, _, _, _, _, _⟩) (v := (.pointer (some ⟨w.heap.size + 1 + 1, 0, none⟩))) rfl (by kernel_rfl) (by kernel_rfl) (by kernel_rfl) (by decide) (fun _ _ _ h => h) (by first | exact .inr (by assumption) | exact .inl (by kernel_rfl)) (Or.inl ⟨by rfl, ?_⟩) ?_
  · intro W hSW
    (try dsimp only at hSW)
    go_simp
  (try go_frame)
  refine wpAnyN_pure (i := 7) (oi := ⟨some 39, _, _, _, _, _⟩) (v := (.pointer (some ⟨w.heap.size + 1 + 1, 0, none⟩))) rfl (by kernel_rfl) (by kernel_rfl) (by kernel_rfl) (by decide) (fun _ _ _ h => h) (by first | exact .inr (by assumption) | exact .inl (by kernel_rfl)) (Or.inl ⟨by rfl, ?_⟩) ?_
  · intro W hSW
    (try dsimp only at hSW)
    go_simp
  (try go_frame)
  refine wpAnyN_take (i := 8) (oi := ⟨some 40, _, _, _, _, _⟩) (v := (.slice (some ⟨g, o, none⟩) n c)) rfl (by kernel_rfl) (by kernel_rfl) (by kernel_rfl) (by kernel_rfl) (by decide) (by kernel_rfl) (fun _ _ _ h => h) (by assumption) (Or.inl ⟨by rfl, ?_⟩) ?_
  · intro W hSW
    (try dsimp only at hSW)
    go_simp
  (try go_frame)
  refine wpAnyN_pure (i := 9) (oi := ⟨some 41, _, _, _, _, _⟩) (v := (.int .i64 (b.length : Int))) rfl (by kernel_rfl) (by kernel_rfl) (by kernel_rfl) (by decide) (fun _ _ _ h => h) (by first | exact .inr (by assumption) | exact .inl (by kernel_rfl)) (Or.inl ⟨by rfl, ?_⟩) ?_
  · intro W hSW
    (try dsimp only at hSW)
    go_simp
  (try go_frame)
  refine wpAnyN_pure (i := 10) (oi := ⟨some 42, _, _, _, _, _⟩) (v := (.slice (some ⟨g, o + b.length, none⟩) (n - b.length) (c - b.length))) rfl (by kernel_rfl) (by kernel_rfl) (by kernel_rfl) (by decide) (fun _ _ _ h => h) (by first | exact .inr (by assumption) | exact .inl (by kernel_rfl)) (Or.inl ⟨by rfl, ?_⟩) ?_
  · intro W hSW
    (try dsimp only at hSW)
    go_simp
  (try go_frame)
  refine wpAnyN_pure (i := 11) (oi := ⟨some 43, _, _, _, _, _⟩) (v := (.pointer (some ⟨w.heap.size + 1 + 1, 0, none⟩))) rfl (by kernel_rfl) (by kernel_rfl) (by kernel_rfl) (by decide) (fun _ _ _ h => h) (by first | exact .inr (by assumption) | exact .inl (by kernel_rfl)) (Or.inl ⟨by rfl, ?_⟩) ?_
  · intro W hSW
    (try dsimp only at hSW)
    go_simp
  (try go_frame)
  refine wpAnyN_pure (i := 12) (oi := ⟨some 44, _, _, _, _, _⟩) (v := (.pointer (some ⟨w.heap.size + 1 + 1, 0, none⟩))) rfl (by kernel_rfl) (by kernel_rfl) (by kernel_rfl) (by decide) (fun _ _ _ h => h) (by first | exact .inr (by assumption) | exact .inl (by kernel_rfl)) (Or.inl ⟨by rfl, ?_⟩) ?_
  · intro W hSW
    (try dsimp only at hSW)
    go_simp
  (try go_frame)
  refine wpAnyN_only (i := 13) (oi := ⟨none, _, _, _, _, _⟩) rfl (by kernel_rfl) (fun K hK => ?_)
  go_simp
  refine hK.out _ _ (.inl (by kernel_rfl)) ?_
  clear hK K
  (try go_frame)
  refine wpAnyN_pure (i := 14) (oi := ⟨some 45, _, _, _, _, _⟩) (v := (.pointer (some ⟨w.heap.size + 1 + 1, 0, none⟩))) rfl (by kernel_rfl) (by kernel_rfl) (by kernel_rfl) (by decide) (fun _ _ _ h => h) (by first | exact .inr (by assumption) | exact .inl (by kernel_rfl)) (Or.inl ⟨by rfl, ?_⟩) ?_
  · intro W hSW
    (try dsimp only at hSW)
    go_simp
  (try go_frame)
  refine wpAnyN_pure (i := 15) (oi := ⟨some 46, _, _, _, _, _⟩) (v := (.pointer (some ⟨w.heap.size + 1 + 1, 1, none⟩))) rfl (by kernel_rfl) (by kernel_rfl) (by kernel_rfl) (by decide) (fun _ _ _ h => h) (by first | exact .inr (by assumption) | exact .inl (by kernel_rfl)) (Or.inl ⟨by rfl, ?_⟩) ?_
  · intro W hSW
    (try dsimp only at hSW)
    go_simp
  (try go_frame)
  refine wpAnyN_only (i := 16) (oi := ⟨none, _, _, _, _, _⟩) rfl (by kernel_rfl) (fun K hK => ?_)
  go_simp
  refine hK.out _ _ (.inl (by kernel_rfl)) ?_
  clear hK K
  (try go_frame)
  refine wpAnyN_done (by kernel_rfl) (NoPanic.normal ?_)
  clear hHeld q0 q1 r0 r1
  obtain ⟨W9, HW9⟩ : ∃ W9, W9 = ((W3.drewN (k3 + 1)).setCell ⟨w.heap.size + 1 + 1, 0, none⟩ (.slice (some ⟨g, o, none⟩) b.length c)).setCell ⟨w.heap.size + 1 + 1, 1, none⟩ (.slice (some ⟨g, o + b.length, none⟩) (n - b.length) (c - b.length)) := ⟨_, rfl⟩
  have hbel9 : Below w.heap.size w W9 := by
    rw [HW9]
    exact ((below_dn HBel3.out (k3 + 1)).setCell (by show w.heap.size ≤ w.heap.size + 1 + 1; omega) _).setCell (by show w.heap.size ≤ w.heap.size + 1 + 1; omega) _
  have hB9 : Blk W9 (w.heap.size + 1 + 1) 104 #[.slice (some ⟨g, o, none⟩) b.length c, .slice (some ⟨g, o + b.length, none⟩) (n - b.length) (c - b.length)] := by
    rw [HW9]
    have := (Blk.set_ (w := W3.drewN (k3 + 1)) HD3.out 0 (.slice (some ⟨g, o, none⟩) b.length c)).set_ 1 (.slice (some ⟨g, o + b.length, none⟩) (n - b.length) (c - b.length))
    simp only [List.setIfInBounds_toArray, List.set_cons_zero, List.set_cons_succ] at this
    exact this
  have hE9 : Blk W9 w.heap.size 47 #[.nilIface] := by
    rw [HW9]
    exact (Blk.far (w := W3.drewN (k3 + 1)) HE3.out (by show w.heap.size ≠ w.heap.size + 1 + 1; omega) _).far (by show w.heap.size ≠ w.heap.size + 1 + 1; omega) _
  have hT : BS w (.slice (some ⟨g, o + b.length, none⟩) (n - b.length) (c - b.length)) t := by
    have h5 := HN0.out
    rw [← HN0.out]
    refine ⟨_, _, rfl, by omega, by omega, fun _ => ⟨g, o + b.length, rfl, fun j hj => ?_⟩⟩
    have := HCELL.out (b.length + j) (by rw [List.length_append]; omega)
    rw [← Nat.add_assoc] at this
    rw [this, List.getElem_append_right (by omega)]
    simp
  have hBb : BS w (.slice (some ⟨g, o, none⟩) b.length c) b := by
    refine ⟨_, _, rfl, by omega, hc2, fun _ => ⟨g, o, rfl, fun j hj => ?_⟩⟩
    have := HCELL.out j (by rw [List.length_append]; omega)
    rw [this, List.getElem_append_left hj]
  go_wp2_with fail
  rw [← HW9]
  clear HW9
  have htl : 0 < t.length := by
    have h2 := HH.out
    cases t with
    | nil => cases h2
    | cons x t => simp
  have z0 : W9.cell? ⟨g, o + b.length, none⟩ = some (.int .u8 0) := by
    obtain ⟨_, _, hv, _, _, hx⟩ := hT.below hbel9
    obtain ⟨g', o', e', hc⟩ := hx htl
    injection hv with hv _ _
    rw [e'] at hv
    injection hv with hv
    injection hv with h1 h2 _
    subst h1
    have := hc 0 htl
    rw [Nat.add_zero, ← h2] at this
    rw [this]
    have h3 := HH.out
    cases t with
    | nil => cases h3
    | cons x t =>
      simp at h3
      subst h3
      rfl
  have z1 : W9.cell? ⟨g, o + b.length + (t.length - 1), none⟩ = some (.int .u8 255) := by
    obtain ⟨_, _, hv, _, _, hx⟩ := hT.below hbel9
    obtain ⟨g', o', e', hc⟩ := hx htl
    injection hv with hv _ _
    rw [e'] at hv
    injection hv with hv
    injection hv with h1 h2 _
    subst h1
    have := hc (t.length - 1) (by omega)
    rw [← h2] at this
    rw [this]
    have h3 := HL.out
    rw [List.getLast?_eq_getElem?, List.getElem?_eq_getElem (by omega)] at h3
    injection h3 with h3
    rw [h3]
    rfl
  have HBEL9 := Lib.hid hbel9
  have HB9 := Lib.hid hB9
  have HE9 := Lib.hid hE9
  have HT := Lib.hid hT
  have HBB := Lib.hid hBb
  rw [HN0.out] at z1 htl
  clear hbel9 hB9 hE9 hT hBb
  generalize hp : o + b.length = p at *
  generalize hm : n - b.length = m at *
  generalize hcm : c - b.length = cm at *
  have hlm : m ≤ cm := by omega
  have hmm : m ≤ 80000000 := by omega
  clear hp hm hcm
  have d0 : W9.cell? ⟨w.heap.size + 1 + 1, 0, none⟩ = some (.slice (some ⟨g, o, none⟩) b.length c) := HB9.out.cell 0
  have d1 : W9.cell? ⟨w.heap.size + 1 + 1, 1, none⟩ = some (.slice (some ⟨g, p, none⟩) m cm) := HB9.out.cell 1
  have hm0 : ¬ (m : Int) = 0 := by omega
  have hm2 : ¬ m = 0 := by omega
  have hm3 : ((m : Int) == 0) = false := by simpa using hm2
  have hm4 : (m == 0) = false := by simpa using hm2
  have hm5 : decide (m = 0) = false := by simpa using hm2
  have hm6 : decide ((m : Int) = 0) = false := by simpa using hm2
  have hm7 : (0 : Int) < (m : Int) := by omega
  have hm1 : (1 : Int) ≤ (m : Int) := by omega
  have hw := wrap64_in ((m : Int) - 1) (by omega) (by omega)
  have hl1 : (m : Int) - 1 < (m : Int) := by omega
  have hl2 : ((m : Int) - 1).toNat = m - 1 := by omega
  have C16 := Lib.hid (fun k => int_at (w.heap.size + 1 + 1) 16 ps.length b t (W9.drewN k) ⟨_, _, HB9.out, HBB.out.below (below_dn HBEL9.out k), HT.out.below (below_dn HBEL9.out k)⟩ H16.out)
  go_quiet (fail)
  clear hm0 hm1 hm2 hm3 hm4 hm5 hm6 hm7 hw hl1 hl2 z0 z1
  go_wp2_with fail
  refine (C16.out _).mono ?_
  rintro e w' ⟨rfl, k9, rfl⟩
  have hp0 : ¬ (ps.length : Int) < 0 := by omega
  have hb8 : (0 : Int) ≤ (b.length : Int) - 8 := by omega
  have hdv : ¬ ((b.length : Int) - 8) / 8 < (ps.length : Int) := by omega
  have e0 : ∀ k o, ((W9.drewN k).alloc o).cell? ⟨w.heap.size, 0, none⟩ = some .nilIface := fun k o => (Blk.alloc (w := W9.drewN k) HE9.out o).cell 0
  have f0 : ∀ k o, ((W9.drewN k).alloc o).frozen? ⟨w.heap.size, 0, none⟩ = false := fun k o => (Blk.alloc (w := W9.drewN k) HE9.out o).frozen 0
  have hsz9 : w.heap.size < W9.heap.size := by have := HB9.out.lt; omega
  go_wp2_with fail
  refine leaves_cons (f := 27) (args := #[.pointer (some ⟨w.heap.size, 0, none⟩)]) (by simp) (by simp [go_sem]) ?_
  refine (unprotect_idle _ _).mono ?_
  rintro e u' w'' ⟨rfl, rfl, rfl⟩
  have c10 : ∀ k o, (((W9.drewN k).alloc o).setCell ⟨w.heap.size, 0, none⟩ .nilIface).cell? ⟨w.heap.size, 0, none⟩ = some .nilIface := fun k o => ((Blk.alloc (w := W9.drewN k) HE9.out o).set_ 0 .nilIface).cell 0
  have hfin : ∀ k, IsMod ps w (.returned (.tuple #[.pointer (some ⟨W9.heap.size, 0, none⟩), .nilIface])) (((W9.drewN k).alloc (.cells #[.string r, .pointer (some ⟨w.heap.size + 1 + 1, 0, none⟩), .int .i64 (ps.length : Int)] 71)).setCell ⟨w.heap.size, 0, none⟩ .nilIface) := fun k => by
    have hbl := ((below_dn HBEL9.out k).alloc HBEL9.out.size (.cells #[.string r, .pointer (some ⟨w.heap.size + 1 + 1, 0, none⟩), .int .i64 (ps.length : Int)] 71)).setCell (p := ⟨w.heap.size, 0, none⟩) (Nat.le_refl _) .nilIface
    refine ⟨W9.heap.size, w.heap.size + 1 + 1, b, t, rfl, ⟨r, ?_⟩, ⟨_, _, ?_, HBB.out.below hbl, HT.out.below hbl⟩, HI.out, hbl⟩
    · exact (Blk.new (W9.drewN k) _ _).far (by show W9.heap.size ≠ w.heap.size; omega) _
    · exact (Blk.alloc (w := W9.drewN k) HB9.out _).far (by show w.heap.size + 1 + 1 ≠ w.heap.size; omega) _
  simp [Leaves, settle, results, Tryz.results26, go_sem, c10]
  exact hfin _
end Go.Proofs.YtanfimeajalffaaGreatDoor
