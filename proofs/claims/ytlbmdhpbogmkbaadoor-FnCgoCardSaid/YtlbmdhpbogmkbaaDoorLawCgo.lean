/-
  The law FnCgo as a call: whatever the comment, it returns true and leaves what was there. Conditions: the tables of Go's library that strings.TrimSpace reads, as they are laid.
-/
import Derived.Test.YtlbmdhpbogmkbaaDoorCgoSpec2
namespace Go.Proofs.YtlbmdhpbogmkbaaDoor
open Go.RowKit

set_option maxHeartbeats 4000000 in
theorem words_any (s : ByteArray) (w : World) (hs : s.size ≤ 1000) :
    Calls Tryd.prog 14 #[.string s] w fun e w' => ∃ (ws : List ByteArray) (A : Option Addr) (c : Nat), e = .returned (.slice A ws.length c) ∧ w'.ownsRow w.heap.size 9 1 (.slice A ws.length c) ws.length (ws.map Value.string) ∧ ws.length ≤ 1001 ∧ Below w.heap.size w w' := by
  obtain ⟨i0, hi0, hz0, hz1, hz2⟩ := info_parts string_info
  go_enter Tryd.func14, Tryd.ntmps14
  go_wp2_with fail
  go_loopw [3, 4, 5, 9] (fun v x _ i wr => ∃ (k : Nat) (t : ByteArray) (ws : List ByteArray), k ≤ s.size ∧ i = .int .i64 k ∧ x = .string t ∧ t.size ≤ k ∧ ws.length ≤ k ∧ wr.ownsRow w.heap.size 9 1 v ws.length (ws.map Value.string) ∧ Below w.heap.size w wr) (fun _ _ _ i _ => s.size - (intOf i).toNat)
  case atStart => exact ⟨0, _, [], Nat.zero_le _, rfl, rfl, by decide, by simp, own_empty w _ _ _ rfl (Nat.le_refl _), (Below.refl _ _).alloc (Nat.le_refl _) _⟩
  case round =>
    obtain ⟨k, t, ws, hk, rfl, rfl, htk, hwk, hown, hnx⟩ := hrel
    have hsz := hnx.size
    by_cases hlt : k < s.size
    · by_cases hb : bt s[k]
      · unfold bt at hb
        by_cases h0 : t.size = 0
        · have he : t.toList.isEmpty = true := by
            rw [Lib.toList_data]
            have : t.data.toList = [] := List.eq_nil_of_length_eq_zero (by simpa using h0)
            rw [this]
            rfl
          clear h0
          rcases hb with hb | hb
          all_goals
            go_wp2_with fail
            go_roundw
            case rel => exact ⟨k + 1, _, ws, by omega, by go_num, rfl, Nat.zero_le _, by omega, hown, hnx⟩
            case measure => simp [intOf]; omega
        · have he : t.toList.isEmpty = false := by
            rw [Lib.toList_data]
            cases hd : t.data.toList with
            | nil => exact absurd (by simpa using congrArg List.length hd) h0
            | cons x xs => rfl
          clear h0
          rcases hb with hb | hb
          all_goals
            go_wp2_with (at_builtin; refine wpList_append_own _ rfl (.tmp 31) (.tmp 33) _ rfl w.heap.size 9 i0 (.string ByteArray.empty) 1 16 Tryd.underlying24 hi0 hz0 hz1 hz2 rfl (by decide) _ _ _ rfl (hown.alloc _) ⟨wr.heap.size, 0, none⟩ 1 1 [Value.string t] rfl rfl (own_cell_new _ _ _) (one_oneCell _ rfl) (by unfold maxLen; omega) (by omega) (by simp; omega) ?_; intro v3 w3 hown3 hgrow3 _)
            have hbw3 : Below w.heap.size w w3 := (hnx.alloc hsz _).grown hgrow3 (by simp; omega) (fun j hj => (hown.lt j hj).1)
            have hown4 : w3.ownsRow w.heap.size 9 1 v3 (ws ++ [t]).length ((ws ++ [t]).map Value.string) := by
              rw [List.map_append, List.length_append]
              exact hown3
            have HO4 := Lib.hid hown4
            clear hown3 hown4 hgrow3 hown
            go_wp2_with fail
            go_roundw
            case rel => exact ⟨k + 1, _, ws ++ [t], by omega, by go_num, rfl, Nat.zero_le _, by rw [List.length_append, List.length_singleton]; omega, HO4.out, hbw3⟩
            case measure => simp [intOf]; omega
      · have n1 : ((((s[k]).toNat : Nat) : Int) != 32) = true := by unfold bt at hb; rw [bne_iff_ne]; omega
        have n2 : ((((s[k]).toNat : Nat) : Int) != 9) = true := by unfold bt at hb; rw [bne_iff_ne]; omega
        have hts : (t ++ s.extract k (k + 1)).size ≤ k + 1 := by simp [ByteArray.size_append]; omega
        have HTS := Lib.hid hts
        clear hb hts
        go_wp2_with fail
        go_roundw
        case rel => exact ⟨k + 1, _, ws, by omega, by go_num, rfl, HTS.out, by omega, hown, hnx⟩
        case measure => simp [intOf]; omega
    · by_cases h0 : t.size = 0
      · have he : t.toList.isEmpty = true := by
          rw [Lib.toList_data]
          have : t.data.toList = [] := List.eq_nil_of_length_eq_zero (by simpa using h0)
          rw [this]
          rfl
        clear h0
        obtain ⟨A, c, hv⟩ := own_form hown
        have HO := Lib.hid hown
        have HV := Lib.hid hv
        clear hv hown
        go_wp2_with fail
        go_ret
        exact ⟨ws, A, c, by rw [← HV.out]; rfl, by rw [← HV.out]; exact HO.out, by omega, hnx⟩
      · have he : t.toList.isEmpty = false := by
          rw [Lib.toList_data]
          cases hd : t.data.toList with
          | nil => exact absurd (by simpa using congrArg List.length hd) h0
          | cons x xs => rfl
        clear h0
        go_wp2_with (at_builtin; refine wpList_append_own _ rfl (.tmp 38) (.tmp 40) _ rfl w.heap.size 9 i0 (.string ByteArray.empty) 1 16 Tryd.underlying24 hi0 hz0 hz1 hz2 rfl (by decide) _ _ _ rfl (hown.alloc _) ⟨wr.heap.size, 0, none⟩ 1 1 [Value.string t] rfl rfl (own_cell_new _ _ _) (one_oneCell _ rfl) (by unfold maxLen; omega) (by omega) (by simp; omega) ?_; intro v3 w3 hown3 hgrow3 _)
        have hbw3 : Below w.heap.size w w3 := (hnx.alloc hsz _).grown hgrow3 (by simp; omega) (fun j hj => (hown.lt j hj).1)
        have hown4 : w3.ownsRow w.heap.size 9 1 v3 (ws ++ [t]).length ((ws ++ [t]).map Value.string) := by
          rw [List.map_append, List.length_append]
          exact hown3
        have hwl : (ws ++ [t]).length ≤ 1001 := by rw [List.length_append, List.length_singleton]; omega
        obtain ⟨A, c, hv⟩ := own_form hown4
        have HO := Lib.hid hown4
        have HV := Lib.hid hv
        have HWL := Lib.hid hwl
        clear hown3 hown4 hgrow3 hown hv hwl
        go_wp2_with fail
        go_ret
        exact ⟨ws ++ [t], A, c, by rw [← HV.out]; rfl, by rw [← HV.out]; exact HO.out, HWL.out, hbw3⟩

/-- A bool, whichever. -/
def SomeB (e : Ending) : Prop := ∃ b, e = .returned (.bool b)

set_option maxHeartbeats 2000000 in
theorem bare_any (s : ByteArray) (w : World) (hs : s.size ≤ 1000) :
    Calls Tryd.prog 11 #[.string s] w fun e w' => SomeB e ∧ Below w.heap.size w w' := by
  go_enter Tryd.func11, Tryd.ntmps11
  go_wp2_with fail
  have C1 := words_any s w hs
  refine C1.mono ?_
  rintro e w1 ⟨ws, A, c, rfl, hown, hwl, hb⟩
  clear C1
  by_cases h2 : 2 ≤ ws.length
  · obtain ⟨g, cap, hv, _, _⟩ := hown.form (by omega)
    injection hv with hA hn hcap
    subst hA
    have hc : w1.cell? ⟨g, 1, none⟩ = some (.string (ws[1]'(by omega))) := by
      have := hown.cells (g := g) rfl 1 (.string (ws[1]'(by omega))) (by simp [show 1 < ws.length by omega])
      simpa [Addr.add] using this
    generalize ws[1]'(by omega) = y at hc
    clear hown hn hcap
    generalize ws.length = n at h2 hwl ⊢
    cases e1 : (y.toList == [110, 111, 99, 97, 108, 108, 98, 97, 99, 107]) with
    | true =>
      go_wp2_with fail
      go_ret
      exact ⟨⟨_, rfl⟩, hb⟩
    | false =>
      cases e2 : (y.toList == [110, 111, 101, 115, 99, 97, 112, 101]) with
      | true =>
        go_wp2_with fail
        go_ret
        exact ⟨⟨_, rfl⟩, hb⟩
      | false =>
        go_wp2_with fail
        go_ret
        exact ⟨⟨_, rfl⟩, hb⟩
  · clear hown
    generalize ws.length = n at h2 hwl ⊢
    go_wp2_with fail
    go_ret
    exact ⟨⟨_, rfl⟩, hb⟩

theorem allPlain_line {l x : List UInt8} (hp : allPlain l = true) (hx : x ∈ lines l) : ∀ b ∈ x, plainB b = true ∧ b ≠ 10 := by
  induction l generalizing x with
  | nil =>
    simp [lines] at hx
    subst hx
    intro b hb
    cases hb
  | cons c r ih =>
    unfold allPlain at hp
    rw [List.all_cons, Bool.and_eq_true] at hp
    have ih' := fun y (hy : y ∈ lines r) => ih (x := y) hp.2 hy
    by_cases hc : c = 10
    · subst hc
      rw [lines_nl] at hx
      rcases List.mem_cons.1 hx with h | h
      · subst h
        intro b hb
        cases hb
      · exact ih' x h
    · cases hl : lines r with
      | nil => exact absurd hl (lines_ne r)
      | cons y ys =>
        rw [lines_other hc hl] at hx
        rcases List.mem_cons.1 hx with h | h
        · subst h
          intro b hb
          rcases List.mem_cons.1 hb with h2 | h2
          · subst h2
            exact ⟨hp.1, hc⟩
          · exact ih' y (by rw [hl]; exact List.mem_cons_self) b h2
        · exact ih' x (by rw [hl]; exact List.mem_cons_of_mem _ h)

set_option maxHeartbeats 8000000 in
theorem fnCgo_any (s : ByteArray) (w : World) (hs : s.size ≤ maxLen) (ht : Tabs w) :
    Calls Tryd.prog 3 #[.string s] w fun e w' => e = .returned (.bool true) ∧ Below w.heap.size w w' := by
  unfold maxLen at hs
  by_cases h1 : 2147483647 < s.size
  · go_enter Tryd.func3, Tryd.ntmps3
    go_wp2_with fail
    go_ret
    exact ⟨rfl, Below.refl _ _⟩
  have HT := Lib.hid ht
  have HSH := Lib.hid (short_any (some ⟨w.heap.size, 0, none⟩) 1 (w.heap.size + 1) [s] 1 (w.alloc (.cells #[.string s] 9)) rfl (reads_one w s _) (by omega) (by intro x hx; simp at hx; subst hx; omega))
  have hbw0 : Below w.heap.size w (w.alloc (.cells #[.string s] 9)) := (Below.refl _ _).alloc (Nat.le_refl _) _
  clear ht
  cases e4 : shortB [s] with
  | false =>
    rw [e4] at HSH
    clear e4
    go_enter Tryd.func3, Tryd.ntmps3
    go_wp2_with fail
    refine (HSH.out).mono ?_
    rintro e w' ⟨rfl, rfl⟩
    go_wp2_with fail
    go_ret
    exact ⟨rfl, hbw0⟩
  | true =>
    have hsz : s.size ≤ 1000 := by simpa [shortB] using e4
    rw [e4] at HSH
    clear e4 h1
    cases e5 : allPlain s.data.toList with
    | false =>
      have C1 := plain_any s (w.alloc (.cells #[.string s] 9)) hsz
      rw [e5] at C1
      have HC := Lib.hid C1
      clear C1 e5
      go_enter Tryd.func3, Tryd.ntmps3
      go_wp2_with fail
      refine (HSH.out).mono ?_
      rintro e w' ⟨rfl, rfl⟩
      go_wp2_with fail
      refine (HC.out).mono ?_
      rintro e w' ⟨rfl, rfl⟩
      go_wp2_with fail
      go_ret
      exact ⟨rfl, hbw0⟩
    | true =>
      have C1 := plain_any s (w.alloc (.cells #[.string s] 9)) hsz
      rw [e5] at C1
      have HC := Lib.hid C1
      have HP := Lib.hid e5
      clear C1 e5
      obtain ⟨i0, hi0, hz0, hz1, hz2⟩ := info_parts string_info
      have hll := lines_length s.data.toList
      have hle : ∀ x ∈ lines s.data.toList, x.length ≤ 1000 := fun x hx => by
        have := line_le hx
        rw [ba_len] at this
        omega
      go_enter Tryd.func3, Tryd.ntmps3
      go_wp2_with fail
      refine (HSH.out).mono ?_
      rintro e w' ⟨rfl, rfl⟩
      go_wp2_with fail
      refine (HC.out).mono ?_
      rintro e w' ⟨rfl, rfl⟩
      go_wp2_with fail
      have C2 := linesOf_any s ((w.alloc (.cells #[.string s] 9)).alloc (.cells #[] 9)) hsz
      refine C2.mono ?_
      rintro e w1 ⟨A, c, rfl, hownl, hb1⟩
      clear C2
      generalize hL : lines s.data.toList = L at hownl hll hle
      have HL := Lib.hid hL
      have hLl : L.length ≤ 1001 := by rw [ba_len] at hll; omega
      have hLpos : 0 < L.length := by
        rw [← hL]
        exact List.length_pos_iff.2 (lines_ne _)
      have hout0 : w1.ownsRow (w.heap.size + 1) 9 1 (.slice (some ⟨w.heap.size + 1, 0, none⟩) 0 0) 0 [] := own_below (own_empty (w.alloc (.cells #[.string s] 9)) (w.heap.size + 1) (w.heap.size + 1) 9 (by simp) (Nat.le_refl _)) hb1
      obtain ⟨g, cap, hv, hgb, hglt⟩ := hownl.form hLpos
      injection hv with hA _ _
      subst hA
      have hlc : ∀ k (hk : k < L.length), w1.cell? ⟨g, k, none⟩ = some (.string ⟨(L[k]).toArray⟩) := fun k hk => by
        have := hownl.cells (g := g) rfl k _ (strCs_getElem L k hk)
        have hadd : (⟨g, 0, none⟩ : Addr).add k = ⟨g, k, none⟩ := by unfold Addr.add; split <;> simp_all
        rw [hadd] at this
        exact this
      have hgne : g ≠ w.heap.size + 1 := by simp at hgb; omega
      have hbw1 : Below w.heap.size w w1 := (hbw0.alloc hbw0.size _).trans (hb1.mono (by simp; omega))
      have hplain : ∀ k (hk : k < L.length), ∀ b ∈ L[k], plainB b = true ∧ b ≠ 10 := fun k hk => allPlain_line HP.out (by rw [hL]; exact List.getElem_mem hk)
      have HLC := Lib.hid hlc
      have HPL := Lib.hid hplain
      have HLE := Lib.hid hle
      have HGB := Lib.hid hgb
      clear hlc hplain hle hL hownl hll hgb
      go_wp2_with fail
      go_loopw [2, 3, 5, 22] (fun _ v _ i wr => ∃ k : Nat, k ≤ L.length ∧ i = .int .i64 k ∧ wr.ownsRow (w.heap.size + 1) 9 1 v (cgoOf (L.take k)).length (strCs (cgoOf (L.take k))) ∧ v.ownBlock ≠ some g ∧ wr.heap[g]? = w1.heap[g]? ∧ w1.heap.size ≤ wr.heap.size ∧ Below w.heap.size w wr) (fun _ _ _ i _ => L.length - (intOf i).toNat)
      case atStart => exact ⟨0, Nat.zero_le _, rfl, hout0, by simp [Value.ownBlock]; omega, rfl, Nat.le_refl _, hbw1⟩
      case round =>
        obtain ⟨k, hk, rfl, hown, hob, hblk, hsz1, hbw⟩ := hrel
        have HOB := Lib.hid hob
        have HBLK := Lib.hid hblk
        have hszr := hbw.size
        have hck := cgoOf_length (L.take k)
        have hckl : (cgoOf (L.take k)).length ≤ 1001 := by simp at hck; omega
        clear hck hob hblk
        by_cases hlt : k < L.length
        · have hc : wr.cell? ⟨g, k, none⟩ = some (.string ⟨(L[k]).toArray⟩) := (World.cell?_of_block (w := w1) HBLK.out).trans (HLC.out k hlt)
          have hsl : (⟨(L[k]).toArray⟩ : ByteArray).size ≤ 1000 := by
            show ((L[k]).toArray).size ≤ 1000
            simpa using HLE.out L[k] (List.getElem_mem hlt)
          have e0 : (⟨(L[k]).toArray⟩ : ByteArray).data.toList = L[k] := by simp
          have HS := Lib.hid (cgoOf_take_succ L k hlt)
          have HPK := Lib.hid (HPL.out k hlt)
          generalize (⟨(L[k]).toArray⟩ : ByteArray) = x at hc hsl e0
          have hTR := trimmed_any x wr hsl
          rw [e0] at hTR
          have HTR := Lib.hid hTR
          clear hTR e0
          go_wp2_with fail
          refine (HTR.out).mono ?_
          rintro e w' ⟨⟨t, rfl, hts, htrim⟩, rfl⟩
          have htl := trim_of_isTrim htrim HPK.out
          rw [htl] at HS
          clear htl htrim
          cases e6 : isCgoL t.data.toList with
          | false =>
            have hIC := isCgo_any t wr hts
            rw [e6] at hIC HS
            have hnx : cgoOf (L.take (k + 1)) = cgoOf (L.take k) := by rw [HS.out]; simp
            have HNX := Lib.hid hnx
            have HIC := Lib.hid hIC
            clear hnx hIC e6
            go_wp2_with fail
            refine (HIC.out).mono ?_
            rintro e w2 ⟨rfl, rfl⟩
            go_wp2_with fail
            go_roundw
            case rel => exact ⟨k + 1, by omega, by go_num, by rw [HNX.out]; exact hown, HOB.out, HBLK.out, hsz1, hbw⟩
            case measure => simp [intOf]; omega
          | true =>
            have hIC := isCgo_any t wr hts
            rw [e6] at hIC HS
            have hnx : cgoOf (L.take (k + 1)) = cgoOf (L.take k) ++ [t.data.toList] := by rw [HS.out]; simp
            have HNX := Lib.hid hnx
            have HIC := Lib.hid hIC
            clear hnx hIC e6
            go_wp2_with fail
            refine (HIC.out).mono ?_
            rintro e w2 ⟨rfl, rfl⟩
            go_wp2_with fail
            have C5 := bare_any t wr hts
            refine C5.mono ?_
            rintro e w3 ⟨⟨b, rfl⟩, hb3⟩
            clear C5
            have hbw3 := hbw.trans (hb3.mono hszr)
            cases b with
            | true =>
              go_wp2_with fail
              go_ret
              exact ⟨rfl, hbw3⟩
            | false =>
              have hown3 := own_below hown hb3
              have hsz3 := hb3.size
              go_wp2_with (at_builtin; refine wpList_append_own_at _ rfl (.tmp 33) (.tmp 35) _ rfl (w.heap.size + 1) 9 i0 (.string ByteArray.empty) 1 16 Tryd.underlying24 hi0 hz0 hz1 hz2 rfl (by decide) _ _ _ rfl (hown3.alloc _) ⟨w3.heap.size, 0, none⟩ 1 1 [Value.string t] rfl rfl (own_cell_new _ _ _) (one_oneCell _ rfl) (by unfold maxLen; omega) (by omega) (by simp; omega) ?_; intro v4 w4 hown4 hgrow4 _ hat4)
              have hbw4 : Below w.heap.size w w4 := (hbw3.alloc hbw3.size _).grown hgrow4 (by simp; omega) (fun j hj => by have := (hown3.lt j hj).1; omega)
              have hblk4 : w4.heap[g]? = w1.heap[g]? := (hgrow4.block g (by simp; omega) (Ne.symm HOB.out)).trans ((Below.heap_alloc _ _ g (by omega)).trans ((hb3.block g (by omega)).trans HBLK.out))
              have hob4 : v4.ownBlock ≠ some g := by
                rcases hat4 with h | h
                · rw [h]; exact HOB.out
                · rw [h]; simp; omega
              have hsz4 : w1.heap.size ≤ w4.heap.size := by have := hgrow4.size; simp at this; omega
              have hown5 : w4.ownsRow (w.heap.size + 1) 9 1 v4 (cgoOf (L.take (k + 1))).length (strCs (cgoOf (L.take (k + 1)))) := by
                rw [HNX.out, strCs_snoc, List.length_append]
                exact hown4
              have HO5 := Lib.hid hown5
              have HOB4 := Lib.hid hob4
              have HBLK4 := Lib.hid hblk4
              clear hown4 hgrow4 hat4 hblk4 hob4 hown5 hown3 hown
              go_roundw
              case rel => exact ⟨k + 1, by omega, by go_num, HO5.out, HOB4.out, HBLK4.out, hsz4, hbw4⟩
              case measure => simp [intOf]; omega
        · have hkl : k = L.length := by omega
          subst hkl
          have C6 := cgoLines_any s wr (by omega) (HT.out.below hbw)
          rw [HL.out] at C6
          rw [List.take_length] at hown hckl
          generalize hC : cgoOf L = C at C6 hown hckl
          obtain ⟨A', c', hv'⟩ := own_form hown
          have HO := Lib.hid hown
          have HV := Lib.hid hv'
          clear hC hown hv'
          go_wp2_with fail
          refine C6.mono ?_
          rintro e w5 ⟨A5, c5, rfl, hown5, hb5⟩
          clear C6
          have hr1 := Reads.of_own hown5
          have hout := HO.out
          rw [HV.out] at hout
          have hr2 := Reads.of_own (own_below hout hb5)
          clear hout
          have hs1 : sameB (baL C) (baL C) = true := by simp [sameB]
          have C7 := sameTexts_any A5 A' c5 c' w5.heap.size (baL C) (baL C) C.length C.length w5 (by simp [baL]) (by simp [baL]) (by rw [← strCs_baL]; exact hr1) (by rw [← strCs_baL]; exact hr2) (by omega) (by omega)
          rw [hs1] at C7
          have HS7 := Lib.hid C7
          have HBW := Lib.hid (hbw.trans (hb5.mono hszr))
          have HV' := HV.out
          clear hr1 hr2 hs1 C7 hown5
          subst HV'
          go_wp2_with fail
          refine (HS7.out).mono ?_
          rintro e w' ⟨rfl, rfl⟩
          go_wp2_with fail
          go_ret
          exact ⟨rfl, HBW.out⟩
end Go.Proofs.YtlbmdhpbogmkbaaDoor
