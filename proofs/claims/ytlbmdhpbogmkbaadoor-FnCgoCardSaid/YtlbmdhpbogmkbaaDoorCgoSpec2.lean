/-
  Contracts of linesOf, Trimmed, Words and Bare. Condition: texts of at most 1000 bytes.
-/
import Derived.Test.YtlbmdhpbogmkbaaDoorCgoSpec
namespace Go.Proofs.YtlbmdhpbogmkbaaDoor
open Go.RowKit

set_option maxHeartbeats 2000000 in
theorem linesOf_any (s : ByteArray) (w : World) (hs : s.size ≤ 1000) :
    Calls Tryd.prog 8 #[.string s] w fun e w' => ∃ A c, e = .returned (.slice A (lines s.data.toList).length c) ∧
      w'.ownsRow w.heap.size 9 1 (.slice A (lines s.data.toList).length c) (lines s.data.toList).length (strCs (lines s.data.toList)) ∧ Below w.heap.size w w' := by
  obtain ⟨i0, hi0, hz0, hz1, hz2⟩ := info_parts string_info
  have hbl := ba_len s
  have HBL := Lib.hid hbl
  clear hbl
  go_enter Tryd.func8, Tryd.ntmps8
  go_wp2_with fail
  go_loopw [3, 4, 5, 9] (fun v f _ i wr => ∃ (k g : Nat) (pre : List (List UInt8)), k ≤ s.size ∧ i = .int .i64 k ∧ g ≤ k ∧ f = .int .i64 g ∧ pre.length ≤ k ∧ lines s.data.toList = pre ++ lines (s.data.toList.drop g) ∧
      (∀ j (hj : j < s.size), g ≤ j → j < k → s[j] ≠ 10) ∧ wr.ownsRow w.heap.size 9 1 v pre.length (strCs pre) ∧ Below w.heap.size w wr) (fun _ _ _ i _ => s.size - (intOf i).toNat)
  case atStart => exact ⟨0, 0, [], Nat.zero_le _, rfl, Nat.le_refl _, rfl, by simp, rfl, fun j hj h1 h2 => absurd h2 (by omega), own_empty w _ _ _ rfl (Nat.le_refl _), (Below.refl _ _).alloc (Nat.le_refl _) _⟩
  case round =>
    obtain ⟨k, g, pre, hk, rfl, hg, rfl, hpl, hl, hno, hown, hnx⟩ := hrel
    have HL := Lib.hid hl
    have HNO := Lib.hid hno
    clear hl hno
    have hsz := hnx.size
    by_cases hlt : k < s.size
    · by_cases h10 : s[k] = 10
      · have hat : nlAt (s.data.toList.drop g) = some (k - g) := by
          refine nlAt_at (by rw [List.length_drop, HBL.out]; omega) (fun j hj hjk => ?_) ?_
          · rw [List.getElem_drop]
            exact HNO.out (g + j) (by rw [List.length_drop, HBL.out] at hj; omega) (by omega) (by omega)
          · rw [List.getElem_drop]
            have e : g + (k - g) = k := by omega
            simp only [e]
            exact h10
        have hnext : lines s.data.toList = (pre ++ [(s.extract g k).data.toList]) ++ lines (s.data.toList.drop (k + 1)) := by
          rw [HL.out, lines_some hat, extract_toList, List.append_assoc, List.drop_drop]
          rw [show g + (k - g + 1) = k + 1 by omega]
          rfl
        have HN := Lib.hid hnext
        have h10n : s[k].toNat = 10 := by rw [h10]; rfl
        clear hat hnext h10
        go_wp2_with (at_builtin; refine wpList_append_own _ rfl (.tmp 16) (.tmp 21) _ rfl w.heap.size 9 i0 (.string ByteArray.empty) 1 16 Tryd.underlying24 hi0 hz0 hz1 hz2 rfl (by decide) _ _ _ rfl (hown.alloc _) ⟨wr.heap.size, 0, none⟩ 1 1 [Value.string (s.extract g k)] rfl rfl (own_cell_new _ _ _) (one_oneCell _ rfl) (by unfold maxLen; omega) (by omega) (by simp; omega) ?_; intro v3 w3 hown3 hgrow3 _)
        have hbw3 : Below w.heap.size w w3 := (hnx.alloc hsz _).grown hgrow3 (by simp; omega) (fun j hj => (hown.lt j hj).1)
        have hown4 : w3.ownsRow w.heap.size 9 1 v3 (pre ++ [(s.extract g k).data.toList]).length (strCs (pre ++ [(s.extract g k).data.toList])) := by
          rw [strCs_snoc, List.length_append]
          exact hown3
        have HO4 := Lib.hid hown4
        clear hown3 hown4 hgrow3 hown
        go_wp2_with fail
        go_roundw
        case rel => exact ⟨k + 1, k + 1, _, by omega, by go_num, Nat.le_refl _, by go_num, by rw [List.length_append, List.length_singleton]; omega, HN.out, fun j hj h1 h2 => absurd h2 (by omega), HO4.out, hbw3⟩
        case measure => simp [intOf]; omega
      · have hnext : ∀ j (hj : j < s.size), g ≤ j → j < k + 1 → s[j] ≠ 10 := fun j hj h1 h2 => by
          rcases Nat.lt_or_ge j k with h3 | h3
          · exact HNO.out j hj h1 h3
          · obtain rfl : j = k := by omega
            exact h10
        have HN := Lib.hid hnext
        have h10n : ((((s[k]).toNat : Nat) : Int) == 10) = false := by
          rw [beq_eq_false_iff_ne]
          intro e
          exact h10 (UInt8.toNat_inj.1 (show s[k].toNat = 10 by omega))
        clear h10 hnext
        go_wp2_with fail
        go_roundw
        case rel => exact ⟨k + 1, g, pre, by omega, by go_num, by omega, rfl, by omega, HL.out, HN.out, hown, hnx⟩
        case measure => simp [intOf]; omega
    · have hend : lines s.data.toList = pre ++ [(s.extract g s.size).data.toList] := by
        have hn : nlAt (s.data.toList.drop g) = none := nlAt_end fun j hj => by
          rw [List.getElem_drop]
          exact HNO.out (g + j) (by rw [List.length_drop, HBL.out] at hj; omega) (by omega) (by rw [List.length_drop, HBL.out] at hj; omega)
        rw [HL.out, lines_none hn, extract_toList, List.take_of_length_le (by rw [List.length_drop, HBL.out]; omega)]
      have HE := Lib.hid hend
      clear hend
      go_wp2_with (at_builtin; refine wpList_append_own _ rfl (.tmp 26) (.tmp 30) _ rfl w.heap.size 9 i0 (.string ByteArray.empty) 1 16 Tryd.underlying24 hi0 hz0 hz1 hz2 rfl (by decide) _ _ _ rfl (hown.alloc _) ⟨wr.heap.size, 0, none⟩ 1 1 [Value.string (s.extract g s.size)] rfl rfl (own_cell_new _ _ _) (one_oneCell _ rfl) (by unfold maxLen; omega) (by omega) (by simp; omega) ?_; intro v3 w3 hown3 hgrow3 _)
      have hbw3 : Below w.heap.size w w3 := (hnx.alloc hsz _).grown hgrow3 (by simp; omega) (fun j hj => (hown.lt j hj).1)
      have hown4 : w3.ownsRow w.heap.size 9 1 v3 (lines s.data.toList).length (strCs (lines s.data.toList)) := by
        rw [HE.out, strCs_snoc, List.length_append]
        exact hown3
      obtain ⟨A, c, hv⟩ := own_form hown4
      have HO4 := Lib.hid hown4
      have HV := Lib.hid hv
      clear hown3 hown4 hgrow3 hown hv
      go_wp2_with fail
      go_ret
      exact ⟨A, c, by rw [← HV.out]; rfl, by rw [← HV.out]; exact HO4.out, hbw3⟩

/-- A text's length, for a measure. -/
def strLen : Value → Nat
  | .string r => r.size
  | _ => 0

theorem get_data (r : ByteArray) (j : Nat) (hj : j < r.size) : (r.data.toList)[j]'(by simpa using hj) = r[j] := rfl

set_option maxHeartbeats 4000000 in
theorem trimmed_any (s : ByteArray) (w : World) (hs : s.size ≤ 1000) :
    Calls Tryd.prog 9 #[.string s] w fun e w' => (∃ t : ByteArray, e = .returned (.string t) ∧ t.size ≤ 1000 ∧ IsTrim s.data.toList t.data.toList) ∧ w = w' := by
  have HBL := Lib.hid (ba_len s)
  go_enter Tryd.func9, Tryd.ntmps9
  go_wp2_with fail
  go_loop [0] (fun v => ∃ (r : ByteArray) (lo : Nat), v = .string r ∧ r.size + lo = s.size ∧ r.data.toList = s.data.toList.drop lo ∧ ∀ j (hj : j < s.data.toList.length), j < lo → bt s.data.toList[j]) (fun v => strLen v)
  case atStart => exact ⟨s, 0, rfl, rfl, rfl, fun j hj h => absurd h (by omega)⟩
  case round =>
    obtain ⟨r, lo, rfl, hsz, hr, hb⟩ := hrel
    have HR := Lib.hid hr
    have HB := Lib.hid hb
    have hsr : r.size ≤ 1000 := by omega
    have HSZ := Lib.hid hsz
    clear hr hb hsz
    have hat : ∀ (j : Nat) (hj : j < r.size), ∀ (hs : lo + j < s.data.toList.length), s.data.toList[lo + j] = r[j] := fun j hj hs => by
      rw [← get_data r j hj]
      have h1 : (r.data.toList)[j]? = (s.data.toList.drop lo)[j]? := by rw [HR.out]
      rw [List.getElem?_drop, List.getElem?_eq_getElem (by simpa using hj), List.getElem?_eq_getElem hs] at h1
      exact (Option.some.inj h1).symm
    have HAT := Lib.hid hat
    clear hat
    by_cases hc : 0 < r.size ∧ ∀ h : 0 < r.size, bt r[0]
    · obtain ⟨hpos, hbt⟩ := hc
      have hb0 := hbt hpos
      have hnext : ∀ j (hj : j < s.data.toList.length), j < lo + 1 → bt s.data.toList[j] := fun j hj hjl => by
        rcases Nat.lt_or_ge j lo with h | h
        · exact HB.out j hj h
        · obtain rfl : j = lo := by omega
          have := HAT.out 0 hpos (by simpa using hj)
          simp only [Nat.add_zero] at this
          rw [this]
          exact hb0
      have hr2 : (r.extract 1 r.size).data.toList = s.data.toList.drop (lo + 1) := by
        rw [extract_toList, List.take_of_length_le (by rw [List.length_drop, ba_len]; omega), HR.out, List.drop_drop]
      have hs2 : (r.extract 1 r.size).size + (lo + 1) = s.size := by
        have := HSZ.out
        simp
        omega
      have hs3 : (r.extract 1 r.size).size < r.size := by simp; omega
      have HN := Lib.hid hnext
      have HR2 := Lib.hid hr2
      have HS2 := Lib.hid hs2
      have HS3 := Lib.hid hs3
      unfold bt at hb0
      clear hnext hr2 hs2 hs3 hbt
      rcases hb0 with hb0 | hb0
      all_goals
        go_wp2_with fail
        go_round
        case rel => exact ⟨_, lo + 1, rfl, HS2.out, HR2.out, HN.out⟩
        case measure =>
          show (r.extract 1 r.size).size < r.size
          exact HS3.out
    · have hfirst : r.size = 0 ∨ ∀ h : lo < s.data.toList.length, ¬ bt s.data.toList[lo] := by
        rcases Nat.eq_zero_or_pos r.size with h | h
        · exact .inl h
        · refine .inr fun hl hbt => hc ⟨h, fun h2 => ?_⟩
          have := HAT.out 0 h2 (by simpa using hl)
          simp only [Nat.add_zero] at this
          rw [← this]
          exact hbt
      have HF := Lib.hid hfirst
      have hways : r.size = 0 ∨ (0 < r.size ∧ ∀ h : 0 < r.size, (((r[0].toNat : Nat) : Int) == 32) = false ∧ (((r[0].toNat : Nat) : Int) == 9) = false) := by
        rcases Nat.eq_zero_or_pos r.size with h | h
        · exact .inl h
        · refine .inr ⟨h, fun h2 => ?_⟩
          have hnb : ¬ bt r[0] := fun hb => hc ⟨h, fun _ => hb⟩
          unfold bt at hnb
          rw [beq_eq_false_iff_ne, beq_eq_false_iff_ne]
          omega
      clear hfirst hc
      have tail : ∀ (Q : Prop), Q → Q := fun _ h => h
      clear tail
      rcases hways with h0 | ⟨h0, h1⟩
      case' inr => obtain ⟨h1, h2⟩ := h1 h0
      all_goals
        go_wp2_with fail
        go_loop [0] (fun v => ∃ (x : ByteArray) (m : Nat), v = .string x ∧ x.size = m ∧ lo + m ≤ s.size ∧ x.data.toList = (s.data.toList.drop lo).take m ∧ (∀ j (hj : j < s.data.toList.length), lo + m ≤ j → bt s.data.toList[j])) (fun v => strLen v)
        case atStart => exact ⟨r, r.size, rfl, rfl, by have := HSZ.out; omega, by rw [HR.out, List.take_of_length_le (by rw [List.length_drop, HBL.out]; have := HSZ.out; omega)], fun j hj h => absurd hj (by rw [HBL.out]; have := HSZ.out; omega)⟩
        case round =>
          obtain ⟨x, m, rfl, hxm, hlm, hx, hbb⟩ := hrel
          have HX := Lib.hid hx
          have HBB := Lib.hid hbb
          have HLM := Lib.hid hlm
          have HXM := Lib.hid hxm
          have hxs : x.size ≤ 1000 := by omega
          clear hx hbb hlm hxm
          have hlast : ∀ (hp : 0 < x.size), ∀ h : lo + m - 1 < s.data.toList.length, s.data.toList[lo + m - 1] = x[x.size - 1] := fun hp h => by
            rw [← get_data x (x.size - 1) (by omega)]
            have h1 : (x.data.toList)[x.size - 1]? = ((s.data.toList.drop lo).take m)[x.size - 1]? := by rw [HX.out]
            have hm := HXM.out
            rw [List.getElem?_take, if_pos (by omega), List.getElem?_drop, List.getElem?_eq_getElem (by rw [ba_len]; omega), show lo + (x.size - 1) = lo + m - 1 by omega, List.getElem?_eq_getElem h] at h1
            exact (Option.some.inj h1).symm
          have HLAST := Lib.hid hlast
          clear hlast
          by_cases hc2 : 0 < x.size ∧ ∀ h : x.size - 1 < x.size, bt (x[x.size - 1]'h)
          · obtain ⟨hpos, hbt⟩ := hc2
            have hb0 := hbt (by omega)
            have hnext : ∀ j (hj : j < s.data.toList.length), lo + (m - 1) ≤ j → bt s.data.toList[j] := fun j hj hjl => by
              have hm := HXM.out
              rcases Nat.lt_or_ge j (lo + m) with h | h
              · obtain rfl : j = lo + m - 1 := by omega
                rw [HLAST.out hpos hj]
                exact hb0
              · exact HBB.out j hj h
            have hx2 : (x.extract 0 (x.size - 1)).data.toList = (s.data.toList.drop lo).take (m - 1) := by
              rw [extract_toList, List.drop_zero, HX.out, List.take_take]
              have hm := HXM.out
              congr 1
              omega
            have hs2 : (x.extract 0 (x.size - 1)).size = m - 1 := by
              have := HXM.out
              simp
              omega
            have hs3 : (x.extract 0 (x.size - 1)).size < x.size := by simp; omega
            have HN := Lib.hid hnext
            have HX2 := Lib.hid hx2
            have HS2 := Lib.hid hs2
            have HS3 := Lib.hid hs3
            unfold bt at hb0
            clear hnext hx2 hs2 hs3 hbt
            rcases hb0 with hb0 | hb0
            all_goals
              go_wp2_with fail
              go_round
              case rel => exact ⟨_, m - 1, rfl, HS2.out, by have := HLM.out; omega, HX2.out, HN.out⟩
              case measure =>
                show (x.extract 0 (x.size - 1)).size < x.size
                exact HS3.out
          · have hres : IsTrim s.data.toList x.data.toList := by
              have hm := HXM.out
              have hlm := HLM.out
              refine ⟨lo, m, HX.out, by rw [HBL.out]; exact hlm, fun j hj h => ?_, ?_⟩
              · rcases h with h | h
                · exact HB.out j hj h
                · exact HBB.out j hj h
              · rcases Nat.eq_zero_or_pos m with h | h
                · exact .inl h
                · refine .inr ⟨?_, fun hl hb => hc2 ⟨by omega, fun h2 => ?_⟩⟩
                  · rcases HF.out with hf | hf
                    · have := HSZ.out
                      omega
                    · exact hf
                  · rw [← HLAST.out (by omega) hl]
                    exact hb
            have hways : x.size = 0 ∨ (0 < x.size ∧ ∀ h : x.size - 1 < x.size, ((((x[x.size - 1]'h).toNat : Nat) : Int) == 32) = false ∧ ((((x[x.size - 1]'h).toNat : Nat) : Int) == 9) = false) := by
              rcases Nat.eq_zero_or_pos x.size with h | h
              · exact .inl h
              · refine .inr ⟨h, fun h2 => ?_⟩
                have hnb : ¬ bt (x[x.size - 1]'h2) := fun hb => hc2 ⟨h, fun _ => hb⟩
                unfold bt at hnb
                rw [beq_eq_false_iff_ne, beq_eq_false_iff_ne]
                omega
            have HRES := Lib.hid hres
            clear hres hc2
            rcases hways with k0 | ⟨k0, k1⟩
            · go_wp2_with fail
              go_ret
              exact ⟨⟨x, rfl, hxs, HRES.out⟩, rfl⟩
            · obtain ⟨k1, k2⟩ := k1 (by omega)
              go_wp2_with fail
              go_ret
              exact ⟨⟨x, rfl, hxs, HRES.out⟩, rfl⟩
end Go.Proofs.YtlbmdhpbogmkbaaDoor
