/-
  The contract of CgoLines, and the law FnCgoJoined as a call. Conditions: the tables of Go's library that strings.TrimSpace reads, as they are laid.
-/
import Derived.Test.YtlbmdhpbogmkbaaDoorCgo
import Derived.Test.YtlbmdhpbogmkbaaDoorShort
import Derived.Test.YtlbmdhpbogmkbaaDoorSame
namespace Go.Proofs.YtlbmdhpbogmkbaaDoor
open Go.RowKit

theorem own_empty (w : World) (base n : Nat) (t : TypeId) (hn : w.heap.size = n) (hb : base ≤ n) : (w.alloc (.cells #[] t)).ownsRow base t 1 (.slice (some ⟨n, 0, none⟩) 0 0) 0 [] := by
  subst hn
  exact World.ownsRow_made w #[] 0 hb (by simp [maxLen]) rfl

theorem zzExtract_any (s : ByteArray) (w : World) (hs : s.size ≤ 1000000) (ht : Tabs w) :
    Calls Tryd.prog 15 #[.string s] w fun e w' => ∃ A c, e = .returned (.slice A (cgoOf (lines s.data.toList)).length c) ∧
      w'.ownsRow w.heap.size 9 1 (.slice A (cgoOf (lines s.data.toList)).length c) (cgoOf (lines s.data.toList)).length (strCs (cgoOf (lines s.data.toList))) ∧ Below w.heap.size w w' := by
  have H := extract_any s w hs ht
  have HL : Hid (lines s.data.toList = lines s.data.toList) := Lib.hid rfl
  clear HL
  go_enter Tryd.func15, Tryd.ntmps15
  go_wp2_with fail
  refine H.mono ?_
  rintro e w1 ⟨A, c, rfl, hown, hb⟩
  have HO := Lib.hid hown
  clear H hown
  go_wp2
  go_ret
  exact ⟨A, c, rfl, HO.out, hb⟩

theorem cgo_count (l : List UInt8) : (cgoOf (lines l)).length ≤ l.length + 1 := Nat.le_trans (cgoOf_length _) (lines_length l)

set_option maxHeartbeats 1000000 in
theorem cgoLines_any (s : ByteArray) (w : World) (hs : s.size ≤ 1000000) (ht : Tabs w) :
    Calls Tryd.prog 13 #[.string s] w fun e w' => ∃ A c, e = .returned (.slice A (cgoOf (lines s.data.toList)).length c) ∧
      w'.ownsRow w.heap.size 9 1 (.slice A (cgoOf (lines s.data.toList)).length c) (cgoOf (lines s.data.toList)).length (strCs (cgoOf (lines s.data.toList))) ∧ Below w.heap.size w w' := by
  obtain ⟨i0, hi0, hz0, hz1, hz2⟩ := info_parts string_info
  have hbw0 : Below w.heap.size w (w.alloc (.cells #[] 9)) := (Below.refl _ _).alloc (Nat.le_refl _) _
  have H := zzExtract_any s (w.alloc (.cells #[] 9)) hs (ht.below hbw0)
  have hcl := cgo_count s.data.toList
  have hcl2 : (cgoOf (lines s.data.toList)).length ≤ 1000001 := by simp at hcl; omega
  have HH := Lib.hid H
  clear H hcl
  go_enter Tryd.func13, Tryd.ntmps13
  go_wp2_with fail
  refine (HH.out).mono ?_
  rintro e w1 ⟨A, c, rfl, hown, hb⟩
  have hr := reads_own hown
  have hown0 := own_below (own_empty w w.heap.size w.heap.size 9 rfl (Nat.le_refl _)) hb
  have hbw1 : Below w.heap.size w w1 := hbw0.trans (hb.mono (by simp))
  generalize hC : cgoOf (lines s.data.toList) = C at hr hcl2 hown ⊢
  have HC := Lib.hid hC
  clear hC hown
  go_wp2_with (at_builtin; refine wpList_append_any _ rfl (.tmp 3) (.tmp 5) _ rfl w.heap.size 9 i0 _ 1 16 Tryd.underlying24 hi0 hz0 hz1 hz2 rfl (by omega) (.slice (some ⟨w.heap.size, 0, none⟩) 0 0) 0 [] rfl hown0 _ A C.length c (strCs C) rfl hr (strCs_oneCell C) (by simp only [maxLen]; omega) (by omega) hbw1.size ?_; intro v2 w2 hown2 hg2 hat2)
  have hown3 : w2.ownsRow w.heap.size 9 1 v2 C.length (strCs C) := by simpa using hown2
  obtain ⟨A', c', hv⟩ := own_form hown3
  have HO := Lib.hid hown3
  have HV := Lib.hid hv
  have hbw2 : Below w.heap.size w w2 := hbw1.grown hg2 hbw1.size (fun k hk => (hown0.lt k hk).1)
  clear hown2 hown3 hg2 hat2 hv hown0
  go_wp2
  go_ret
  rw [HC.out]
  exact ⟨A', c', by rw [← HV.out]; rfl, by rw [← HV.out]; exact HO.out, hbw2⟩

/-- Texts as Go's strings. -/
def baL (ls : List (List UInt8)) : List ByteArray := ls.map fun l => ⟨l.toArray⟩

theorem strCs_baL (ls : List (List UInt8)) : strCs ls = (baL ls).map Value.string := by simp [strCs, baL]

theorem lines_join : ∀ (x y : List UInt8), lines (x ++ 10 :: y) = lines x ++ lines y
  | [], y => by
    rw [List.nil_append, lines_nl]
    rfl
  | b :: r, y => by
    have ih := lines_join r y
    by_cases hb : b = 10
    · subst hb
      rw [List.cons_append, lines_nl, lines_nl, ih]
      rfl
    · cases hl : lines r with
      | nil => exact absurd hl (lines_ne r)
      | cons z zs =>
        rw [hl] at ih
        rw [List.cons_append, lines_other hb ih, lines_other hb hl]
        rfl

theorem cgoOf_append (a b : List (List UInt8)) : cgoOf (a ++ b) = cgoOf a ++ cgoOf b := by
  unfold cgoOf
  rw [List.map_append, List.filter_append]

/-- The slice of two texts that short is called with. -/
theorem reads_two (w : World) (s t : ByteArray) (ty : TypeId) : Reads (w.alloc (.cells #[.string s, .string t] ty)) (w.heap.size + 1) 1 (some ⟨w.heap.size, 0, none⟩) 2 ([s, t].map Value.string) := by
  refine ⟨by simp, fun _ => ⟨_, rfl, by simp, fun j u hu => ?_⟩⟩
  match j, hu with
  | 0, hu =>
    simp at hu
    subst hu
    simp [Addr.add, cell_of_row _ w.heap.size 0 _ ty (0, 0) (heap_alloc_new w _)]
  | 1, hu =>
    simp at hu
    subst hu
    simp [Addr.add, cell_of_row _ w.heap.size 1 _ ty (0, 0) (heap_alloc_new w _)]

abbrev probeS : ByteArray := { data := #[35, 99, 103, 111, 32, 65, 58, 32, 98] }
theorem probe_cgo : (cgoOf (lines probeS.data.toList)).length = 1 := by decide +kernel

set_option maxHeartbeats 1000000 in
theorem fnCgoJoined_any (a b : ByteArray) (w : World) (ha : a.size ≤ maxLen) (hb : b.size ≤ maxLen) (ht : Tabs w) :
    Calls Tryd.prog 4 #[.string a, .string b] w fun e w' => e = .returned (.bool true) ∧ Below w.heap.size w w' := by
  unfold maxLen at ha hb
  by_cases h1 : 2147483647 < a.size ∨ 2147483647 < b.size
  · go_enter Tryd.func4, Tryd.ntmps4
    go_wp2_with fail
    all_goals first
      | (go_ret; exact ⟨rfl, Below.refl _ _⟩)
      | skip
    all_goals (exfalso; omega)
  obtain ⟨g1, g2⟩ : a.size ≤ 2147483647 ∧ b.size ≤ 2147483647 := by omega
  clear h1
  have HSH := Lib.hid (short_any (some ⟨w.heap.size, 0, none⟩) 2 (w.heap.size + 1) [a, b] 2 (w.alloc (.cells #[.string a, .string b] 9)) rfl (reads_two w a b _) (by omega) (by intro x hx; simp at hx; rcases hx with h | h <;> subst h <;> omega))
  have hbw0 : Below w.heap.size w (w.alloc (.cells #[.string a, .string b] 9)) := (Below.refl _ _).alloc (Nat.le_refl _) _
  cases e4 : shortB [a, b] with
  | false =>
    rw [e4] at HSH
    clear e4
    go_enter Tryd.func4, Tryd.ntmps4
    go_wp2_with fail
    refine (HSH.out).mono ?_
    rintro e w' ⟨rfl, rfl⟩
    go_wp2_with fail
    go_ret
    exact ⟨rfl, hbw0⟩
  | true =>
    have hsz : a.size ≤ 1000 ∧ b.size ≤ 1000 := by simpa [shortB] using e4
    obtain ⟨k1, k2⟩ := hsz
    rw [e4] at HSH
    clear e4 g1 g2 ha hb
    obtain ⟨i0, hi0, hz0, hz1, hz2⟩ := info_parts string_info
    have HT := Lib.hid ht
    clear ht
    go_enter Tryd.func4, Tryd.ntmps4
    go_wp2_with fail
    refine (HSH.out).mono ?_
    rintro e w' ⟨rfl, rfl⟩
    have hjoin : lines (a ++ { data := #[10] } ++ b).data.toList = lines a.data.toList ++ lines b.data.toList := by
      rw [← lines_join]
      congr 1
      simp [ByteArray.data_append]
    have hj2 : cgoOf (lines (a ++ { data := #[10] } ++ b).data.toList) = cgoOf (lines a.data.toList) ++ cgoOf (lines b.data.toList) := by rw [hjoin, cgoOf_append]
    have hjs : (a ++ { data := #[10] } ++ b).size ≤ 1000000 := by
      have : (a ++ { data := #[10] } ++ b).size = a.size + 1 + b.size := by simp [ByteArray.size_append]; rfl
      omega
    have ca := cgo_count a.data.toList
    have cb := cgo_count b.data.toList
    have ca2 : (cgoOf (lines a.data.toList)).length ≤ 1001 := by simp at ca; omega
    have cb2 : (cgoOf (lines b.data.toList)).length ≤ 1001 := by simp at cb; omega
    clear ca cb hjoin
    have HJ := Lib.hid hj2
    clear hj2
    go_wp2_with fail
    have C1 := cgoLines_any (a ++ { data := #[10] } ++ b) _ hjs (HT.out.below hbw0)
    rw [HJ.out] at C1
    refine C1.mono ?_
    rintro e w1 ⟨A1, d1, rfl, hown1, hb1⟩
    have hbw1 := hbw0.trans (hb1.mono (by simp))
    go_wp2_with fail
    refine (cgoLines_any a w1 (by omega) (HT.out.below hbw1)).mono ?_
    rintro e w2 ⟨A2, d2, rfl, hown2, hb2⟩
    have hbw2 := hbw1.trans (hb2.mono hbw1.size)
    go_wp2_with fail
    refine (cgoLines_any b w2 (by omega) (HT.out.below hbw2)).mono ?_
    rintro e w3 ⟨A3, d3, rfl, hown3, hb3⟩
    have hbw3 := hbw2.trans (hb3.mono hbw2.size)
    have hown2' := own_below hown2 hb3
    have hr3 := reads_own hown3
    generalize cgoOf (lines a.data.toList) = CA at hown1 hown2 hown2' ca2 ⊢
    generalize cgoOf (lines b.data.toList) = CB at hown1 hown3 hr3 cb2 ⊢
    have hl12 : (CA ++ CB).length = CA.length + CB.length := List.length_append
    rw [hl12] at hown1
    clear hown2 hown3 HJ hl12
    have hb13 : Below w1.heap.size w1 w3 := hb2.trans (hb3.mono hb2.size)
    go_wp2_with (at_builtin; refine wpList_append_any _ rfl (.tmp 24) (.tmp 26) _ rfl w1.heap.size 9 i0 _ 1 16 Tryd.underlying24 hi0 hz0 hz1 hz2 rfl (by omega) (.slice A2 CA.length d2) CA.length (strCs CA) rfl hown2' _ A3 CB.length d3 (strCs CB) rfl hr3 (strCs_oneCell CB) (by simp only [maxLen]; omega) (by omega) hb13.size ?_; intro v4 w4 hown4 hg4 hat4)
    have hb14 : Below w1.heap.size w1 w4 := hb13.grown hg4 hb13.size (fun k hk => (hown2'.lt k hk).1)
    have hbw4 := hbw1.trans (hb14.mono hbw1.size)
    rw [← strCs_append] at hown4
    obtain ⟨A4, d4, hv4⟩ := own_form hown4
    rw [hv4] at hown4 ⊢
    have hr1 := (reads_own hown1).below hb14
    have hr4 := (reads_own hown4).more (B' := w4.heap.size) (Nat.le_refl _)
    rw [strCs_baL] at hr1 hr4
    have hbl : (baL (CA ++ CB)).length = CA.length + CB.length := by simp [baL]
    have hsame := sameTexts_any A1 A4 d1 d4 w4.heap.size (baL (CA ++ CB)) (baL (CA ++ CB)) _ _ w4 hbl hbl (hr1.more hb14.size) hr4 (by omega) (by omega)
    have hs1 : sameB (baL (CA ++ CB)) (baL (CA ++ CB)) = true := by simp [sameB]
    rw [hs1] at hsame
    have HSM := Lib.hid hsame
    clear hown4 hg4 hat4 hr1 hr4 hbl hsame hs1 hown1 hown2' hr3 hv4
    go_wp2_with fail
    refine (HSM.out).mono ?_
    rintro e w5 ⟨rfl, rfl⟩
    go_wp2_with fail
    refine (cgoLines_any probeS _ (by decide) (HT.out.below hbw4)).mono ?_
    rintro e w6 ⟨A6, d6, rfl, hown6, hb6⟩
    rw [probe_cgo]
    clear hown6
    have hbw6 := hbw4.trans (hb6.mono hbw4.size)
    go_wp2
    go_ret
    exact ⟨rfl, hbw6⟩
end Go.Proofs.YtlbmdhpbogmkbaaDoor
