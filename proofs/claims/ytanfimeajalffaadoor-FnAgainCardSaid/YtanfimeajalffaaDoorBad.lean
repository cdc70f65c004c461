/-
  Decode and Dirs on bytes that do not begin as an index does. Condition: the bytes do not begin so; the package's error is laid.
-/
import Derived.Test.YtanfimeajalffaaDoorFrom
import Derived.Test.YtanfimeajalffaaDoorGivenFile
namespace Go.Proofs.YtanfimeajalffaaDoor
open Go.RowKit
attribute [local go_sem ↓] Go.wp_at_zero Go.wp_at_succ

/-- The package's error in memory: what errCorrupt holds. -/
def Corrupt (w : World) (a : Addr) : Prop := w.cell? ⟨0, 0, none⟩ = some (.iface 145 (.pointer (some a)))
theorem Corrupt.below {B : Nat} {w w' : World} {a : Addr} (h : Corrupt w a) (hb : Below B w w') (hB : 0 < B) : Corrupt w' a := (hb.cell (p := ⟨0, 0, none⟩) hB).trans h
theorem Corrupt.lt {w : World} {a : Addr} (h : Corrupt w a) : 0 < w.heap.size := World.block_lt_of_cell? w _ h

set_option maxHeartbeats 1000000 in
theorem zzDecode_bad (v : Value) (l : List UInt8) (a : Addr) (w : World) (hE : Corrupt w a) (hb : BS w v l) (hn : Lib.hasPrefix l magic = false) :
    Calls Tryd.prog 19 #[v] w fun e w' => e = .returned (.tuple #[.slice none 0 0, .iface 145 (.pointer (some a))]) ∧ Below w.heap.size w w' := by
  have hbe : Below w.heap.size w (w.alloc (.cells #[.nilIface] 44)) := (Below.refl _ _).alloc (Nat.le_refl _) _
  have C := Lib.hid (fromBytes_bad { data := #[] } v l a (w.alloc (.cells #[.nilIface] 44)) (hE.below hbe hE.lt) (hb.below hbe) hn)
  obtain ⟨A, c, rfl, hA⟩ := id hb
  clear hA hE hb hn
  have hB := Lib.hid (Blk.new w 44 #[.nilIface])
  go_enter_defers Tryd.func19, Tryd.ntmps19
  go_wp2_with fail
  refine C.out.mono ?_
  rintro e w1 ⟨rfl, hb1⟩
  have hbl : Below (w.heap.size + 1) (w.alloc (.cells #[.nilIface] 44)) w1 := by rw [World.size_alloc] at hb1; exact hb1
  have hB1 := hB.out.below hbl (by omega)
  have hbel := hbe.trans (hbl.mono (by omega))
  have c0 := hB1.cell 0
  have f0 := hB1.frozen 0
  clear hb1 hbl hbe
  go_wp2_with fail
  have hB2 := hB1.set_ 0 (.iface 145 (.pointer (some a)))
  simp only [List.setIfInBounds_toArray, List.set_cons_zero] at hB2
  have hHeld : (w1.setCell ⟨w.heap.size, 0, none⟩ (.iface 145 (.pointer (some a)))).drew.cell? ⟨w.heap.size, 0, none⟩ = some (.iface 145 (.pointer (some a))) := hB2.cell 0
  have hf2 := hB2.frozen 0
  have HB2 := Lib.hid hB2
  clear hB1 hB2
  refine wp_region_m 2 (fun W => W.cell? ⟨w.heap.size, 0, none⟩ = some (.iface 145 (.pointer (some a)))) (by kernel_rfl) ?_
  refine wpAnyM_take (i := 0) (oi := ⟨some 13, _, _, _, _, _⟩) (v := (.iface 145 (.pointer (some a)))) rfl (by kernel_rfl) (by kernel_rfl) (by kernel_rfl) (by kernel_rfl) (by decide) (fun _ _ _ h => h) (by assumption) (Or.inl ⟨by rfl, ?_⟩) ?_
  · intro W hSW
    (try dsimp only at hSW)
    go_simp
  (try go_frame)
  refine wpAnyM_take (i := 1) (oi := ⟨some 2, _, _, _, _, _⟩) (v := (.slice none 0 0)) rfl (by kernel_rfl) (by kernel_rfl) (by kernel_rfl) (by kernel_rfl) (by decide) (fun _ _ _ h => h) (by assumption) (Or.inl ⟨by rfl, ?_⟩) ?_
  · intro W hSW
    (try dsimp only at hSW)
    go_simp
  (try go_frame)
  refine wpAnyM_only (i := 2) (oi := ⟨none, _, _, _, _, _⟩) rfl (by kernel_rfl) (fun K hK => ?_)
  go_simp
  refine hK.out _ _ (.inl rfl) ?_
  clear hK K
  (try go_frame)
  refine wpAnyM_done (by kernel_rfl) (NoPanic.normal ?_)
  go_wp2_with fail
  have c3 : ((w1.setCell ⟨w.heap.size, 0, none⟩ (.iface 145 (.pointer (some a)))).setCell ⟨w.heap.size, 0, none⟩ (.iface 145 (.pointer (some a)))).cell? ⟨w.heap.size, 0, none⟩ = some (.iface 145 (.pointer (some a))) := (HB2.out.set_ 0 _).cell 0
  simp [bodyPostD, Leaves, results, Tryd.results19, go_sem, c3]
  exact ((hbel.setCell (Nat.le_refl _) _).setCell (Nat.le_refl _) _).drew

set_option maxHeartbeats 1000000 in
theorem zzDirs_bad (v : Value) (l : List UInt8) (a : Addr) (w : World) (hE : Corrupt w a) (hb : BS w v l) (hn : Lib.hasPrefix l magic = false) :
    Calls Tryd.prog 16 #[v] w fun e w' => e = .returned (.tuple #[.slice none 0 0, .iface 145 (.pointer (some a))]) ∧ Below w.heap.size w w' := by
  have hbe : Below w.heap.size w (w.alloc (.cells #[.slice none 0 0] 24)) := (Below.refl _ _).alloc (Nat.le_refl _) _
  have C := Lib.hid (fromBytes_bad { data := #[] } v l a (w.alloc (.cells #[.slice none 0 0] 24)) (hE.below hbe hE.lt) (hb.below hbe) hn)
  obtain ⟨A, c, rfl, hA⟩ := id hb
  clear hA hE hb hn
  have hB := Lib.hid (Blk.new w 24 #[.slice none 0 0])
  go_enter Tryd.func16, Tryd.ntmps16
  go_wp2_with fail
  refine C.out.mono ?_
  rintro e w1 ⟨rfl, hb1⟩
  have hbl : Below (w.heap.size + 1) (w.alloc (.cells #[.slice none 0 0] 24)) w1 := by rw [World.size_alloc] at hb1; exact hb1
  have hB1 := hB.out.below hbl (by omega)
  have hbel := hbe.trans (hbl.mono (by omega))
  have c0 := hB1.cell 0
  have f0 := hB1.frozen 0
  have c3 : (w1.setCell ⟨w.heap.size, 0, none⟩ (.slice none 0 0)).cell? ⟨w.heap.size, 0, none⟩ = some (.slice none 0 0) := (hB1.set_ 0 _).cell 0
  clear hb1 hbl hbe hB1
  go_wp2_with fail
  refine bodyPost_ret (v := .tuple #[.slice none 0 0, .iface 145 (.pointer (some a))]) (by simp [results, Tryd.results16, go_sem, c3]) rfl ⟨rfl, hbel.setCell (Nat.le_refl _) _⟩

theorem byte_info : (Tryd.prog.info? 5).map (fun i => (i.zero, i.size, i.bytes)) = some (some (.int .u8 0), 1, 1) := by kernel_rfl

set_option maxHeartbeats 1000000 in
theorem decode_bad (v : Value) (l : List UInt8) (a : Addr) (w : World) (hE : Corrupt w a) (hb : BS w v l) (hn : Lib.hasPrefix l magic = false) (hs : l.length ≤ 100000000) :
    Calls Tryd.prog 12 #[v] w fun e w' => ∃ u, e = .returned (.tuple #[u, .bool false]) ∧ Below w.heap.size w w' := by
  obtain ⟨i0, hi0, hz0, hz1, hz2⟩ := info_parts' byte_info
  obtain ⟨A, c, rfl, hA⟩ := id hb
  clear hA
  have HB := Lib.hid hb
  have HE := Lib.hid hE
  have hlt := hE.lt
  clear hb hE
  go_enter Tryd.func12, Tryd.ntmps12
  go_wp2_with (at_builtin; refine wpList_append_any _ rfl (.tmp 10) (.tmp 11) _ rfl w.heap.size 5 i0 _ 1 1 Tryd.underlying30 hi0 hz0 hz1 hz2 rfl (by omega) (.slice (some ⟨w.heap.size, 0, none⟩) 0 0) 0 [] rfl (World.ownsRow_made w #[] 0 (Nat.le_refl _) (by simp [maxLen]) rfl) _ A l.length c (Lib.byteCells l) rfl (reads_of_bs (HB.out.below ((Below.refl _ _).alloc (Nat.le_refl _) _))) (byteCells_oneCell l) (by simp only [maxLen]; omega) (by omega) (by simp) ?_; intro v1 w1 hown1 hg1 hat1)
  have hb1 : BS w1 v1 l := bs_of_own (by simpa using hown1)
  have hbw : Below w.heap.size w w1 := ((Below.refl _ _).alloc (Nat.le_refl _) _).grown hg1 (by simp) (by simp [Value.ownBlock])
  refine (zzDecode_bad v1 l a w1 (HE.out.below hbw hlt) hb1 hn).mono ?_
  rintro e w2 ⟨rfl, hb2⟩
  have hbel := hbw.trans (hb2.mono hbw.size)
  clear hown1 hg1 hat1 hb1 hbw hb2
  go_wp2_with fail
  go_loopw [19] (fun i wr => i = .int .i64 0 ∧ Below w.heap.size w wr) (fun _ _ => 0)
  case atStart => exact ⟨rfl, hbel.alloc hbel.size _⟩
  case round =>
    obtain ⟨rfl, hF⟩ := hrel
    clear hbel
    go_wp2_with fail
    go_quiet (fail)
    go_wp2_with fail
    go_ret2
    exact ⟨_, rfl, below_dn hF _⟩

theorem text_own {w : World} (base : Nat) (hb : base ≤ w.heap.size) : (w.alloc (.cells #[] 9)).ownsRow base 9 1 (.slice (some ⟨w.heap.size, 0, none⟩) 0 0) 0 [] := World.ownsRow_made w #[] 0 hb (by simp [maxLen]) rfl

set_option maxHeartbeats 1000000 in
theorem dirs_bad (v : Value) (l : List UInt8) (a : Addr) (w : World) (hE : Corrupt w a) (hb : BS w v l) (hn : Lib.hasPrefix l magic = false) (hs : l.length ≤ 100000000) :
    Calls Tryd.prog 9 #[v] w fun e w' => ∃ u, e = .returned (.tuple #[u, .bool false]) ∧ Below w.heap.size w w' := by
  obtain ⟨i0, hi0, hz0, hz1, hz2⟩ := info_parts' byte_info
  obtain ⟨i1, hi1, hz3, hz4, hz5⟩ := info_parts' text_info
  obtain ⟨A, c, rfl, hA⟩ := id hb
  clear hA
  have HB := Lib.hid hb
  have HE := Lib.hid hE
  have hlt := hE.lt
  clear hb hE
  go_enter Tryd.func9, Tryd.ntmps9
  go_wp2_with (at_builtin; refine wpList_append_any _ rfl (.tmp 7) (.tmp 8) _ rfl w.heap.size 5 i0 _ 1 1 Tryd.underlying30 hi0 hz0 hz1 hz2 rfl (by omega) (.slice (some ⟨w.heap.size, 0, none⟩) 0 0) 0 [] rfl (World.ownsRow_made w #[] 0 (Nat.le_refl _) (by simp [maxLen]) rfl) _ A l.length c (Lib.byteCells l) rfl (reads_of_bs (HB.out.below ((Below.refl _ _).alloc (Nat.le_refl _) _))) (byteCells_oneCell l) (by simp only [maxLen]; omega) (by omega) (by simp) ?_; intro v1 w1 hown1 hg1 hat1)
  have hb1 : BS w1 v1 l := bs_of_own (by simpa using hown1)
  have hbw : Below w.heap.size w w1 := ((Below.refl _ _).alloc (Nat.le_refl _) _).grown hg1 (by simp) (by simp [Value.ownBlock])
  refine (zzDirs_bad v1 l a w1 (HE.out.below hbw hlt) hb1 hn).mono ?_
  rintro e w2 ⟨rfl, hb2⟩
  have hbel := hbw.trans (hb2.mono hbw.size)
  have hsz := hbel.size
  clear hown1 hg1 hat1 hb1 hbw hb2
  go_wp2_with fail
  go_region_law (first | (refine step_append_any _ (by rfl) (.tmp 13) (.tmp 14) _ (by rfl) w.heap.size 9 i1 _ 1 16 Tryd.underlying24 hi1 hz3 hz4 hz5 (by rfl) (by decide) (.slice (some ⟨w2.heap.size, 0, none⟩) 0 0) 0 [] (by rfl) (own_void _ _ _ _ (by rfl) (by simpa using hsz)) 0 none 0 0 [] (by rfl) Reads.none_ (by simp) (by simp [maxLen]) (by omega) (by simp; omega) ?_; intro v3 w3 hown3 hg3 _))
  go_wp2_with fail
  go_ret2
  exact ⟨_, rfl, ((hbel.alloc hsz _).drew).grown hg3 (by simp; omega) (by simp [Value.ownBlock]; omega)⟩
end Go.Proofs.YtanfimeajalffaaDoor
