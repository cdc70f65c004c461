/-
  The law FnCgoOne as a call: whatever the two words, it returns true and leaves what was there. Conditions: the tables of Go's library that strings.TrimSpace reads, as they are laid.
-/
import Derived.Test.YtlbmdhpbogmkbaaDoorCgoLines
import Derived.Lib.TrimAscii
namespace Go.Proofs.YtlbmdhpbogmkbaaDoor
open Go.RowKit

theorem reads_one (w : World) (s : ByteArray) (t : TypeId) : Reads (w.alloc (.cells #[.string s] t)) (w.heap.size + 1) 1 (some ⟨w.heap.size, 0, none⟩) 1 ([s].map Value.string) := by
  refine ⟨by simp, fun _ => ⟨_, rfl, by simp, fun j u hu => ?_⟩⟩
  match j, hu with
  | 0, hu =>
    simp at hu
    subst hu
    simp [Addr.add, cell_of_row _ w.heap.size 0 _ t (0, 0) (heap_alloc_new w _)]

theorem ba_len (s : ByteArray) : s.data.toList.length = s.size := by simp

/-- A letter. -/
def letter (b : UInt8) : Prop := (65 ≤ b.toNat ∧ b.toNat ≤ 90) ∨ (97 ≤ b.toNat ∧ b.toNat ≤ 122)

/-- A word of letters, neither empty nor too long. -/
def okText (s : ByteArray) : Prop := (∀ b ∈ s.data.toList, letter b) ∧ 0 < s.size ∧ s.size ≤ 1000

/-- The line of a name and a value. -/
def cgoLine (n v : List UInt8) : List UInt8 := 35 :: 99 :: 103 :: 111 :: 32 :: (n ++ (58 :: 32 :: v))

theorem letter_ne {b c : UInt8} (h : letter b) (hc : c.toNat < 65) : b ≠ c := by
  rintro rfl
  unfold letter at h
  omega

theorem letter_space {b : UInt8} (h : letter b) : Lib.isSp b = false ∧ b.toNat < 128 := by
  refine ⟨?_, by unfold letter at h; omega⟩
  unfold Lib.isSp
  have h1 : b ≠ 9 := letter_ne h (by decide)
  have h2 : b ≠ 10 := letter_ne h (by decide)
  have h3 : b ≠ 11 := letter_ne h (by decide)
  have h4 : b ≠ 12 := letter_ne h (by decide)
  have h5 : b ≠ 13 := letter_ne h (by decide)
  have h6 : b ≠ 32 := letter_ne h (by decide)
  simp [h1, h2, h3, h4, h5, h6]

theorem cgoLine_cgo (n v : List UInt8) (hn : ∀ b ∈ n, letter b) (hv : ∀ b ∈ v, letter b) (h0 : v ≠ []) : cgoOf (lines (cgoLine n v)) = [cgoLine n v] := by
  have hno : ∀ b ∈ cgoLine n v, b ≠ 10 := by
    intro b hb
    simp only [cgoLine, List.mem_cons, List.mem_append] at hb
    rcases hb with h | h | h | h | h | h | h | h | h
    all_goals first
      | (subst h; decide)
      | exact letter_ne (hn b h) (by decide)
      | exact letter_ne (hv b h) (by decide)
  have hl : lines (cgoLine n v) = [cgoLine n v] := lines_none (nlAt_end fun j hj => hno _ (List.getElem_mem hj))
  have hlen : 0 < v.length := List.length_pos_iff.2 h0
  have hll : (cgoLine n v).length = n.length + v.length + 7 := by simp [cgoLine]; omega
  have hlast : (cgoLine n v)[(cgoLine n v).length - 1]? = some (v.getLast h0) := by
    rw [← List.getLast?_eq_getElem?]
    have : (cgoLine n v).getLast? = v.getLast? := by
      unfold cgoLine
      rw [show (35 :: 99 :: 103 :: 111 :: 32 :: (n ++ (58 :: 32 :: v)) : List UInt8) = (35 :: 99 :: 103 :: 111 :: 32 :: (n ++ [58, 32])) ++ v by simp]
      rw [List.getLast?_append, List.getLast?_eq_some_getLast h0]
      rfl
    rw [this, List.getLast?_eq_some_getLast h0]
  have hy := letter_space (hv _ (List.getLast_mem h0))
  have ht : Lib.trimSpaceD (cgoLine n v) = cgoLine n v := by
    rw [Lib.exit_cut (cgoLine n v) 0 ((cgoLine n v).length - 1) (Nat.zero_le _) (by omega) (fun j b hj => absurd hj (by omega)) 35 rfl (by decide) (by decide) _ hlast hy.1 hy.2 (fun j b hj hb => by
      have := (List.getElem?_eq_some_iff.1 hb).1
      omega)]
    rw [List.drop_zero, List.take_of_length_le (by omega)]
  have hc : isCgoL (cgoLine n v) = true := by
    unfold isCgoL
    have : 5 ≤ (cgoLine n v).length := by omega
    simp [this]
    unfold cgoLine
    exact ⟨rfl, .inl rfl⟩
  rw [hl]
  unfold cgoOf
  simp [ht, hc]

set_option maxHeartbeats 4000000 in
theorem fnCgoOne_any (a b : ByteArray) (w : World) (ha : a.size ≤ maxLen) (hb : b.size ≤ maxLen) (ht : Tabs w) :
    Calls Tryd.prog 5 #[.string a, .string b] w fun e w' => e = .returned (.bool true) ∧ Below w.heap.size w w' := by
  unfold maxLen at ha hb
  by_cases h1 : 2147483647 < a.size ∨ 2147483647 < b.size
  · go_enter Tryd.func5, Tryd.ntmps5
    go_wp2_with fail
    all_goals first
      | (go_ret; exact ⟨rfl, Below.refl _ _⟩)
      | skip
    all_goals (exfalso; omega)
  obtain ⟨g1, g2⟩ : a.size ≤ 2147483647 ∧ b.size ≤ 2147483647 := by omega
  clear h1 ha hb
  have hbw0 : Below w.heap.size w (w.alloc (.cells #[.string a, .string b] 9)) := (Below.refl _ _).alloc (Nat.le_refl _) _
  have hrd := reads_two w a b 9
  obtain ⟨w0, hw0⟩ : ∃ w0, w0 = w.alloc (.cells #[.string a, .string b] 9) := ⟨_, rfl⟩
  have hsz0 : w0.heap.size = w.heap.size + 1 := by rw [hw0]; simp
  rw [← hw0] at hbw0 hrd
  have HT := Lib.hid ht
  have HW0 := Lib.hid hw0
  have HZ0 := Lib.hid hsz0
  clear ht hw0 hsz0
  go_enter Tryd.func5, Tryd.ntmps5
  go_wp2_with fail
  rw [← HW0.out]
  go_loopw [4, 6, 7, 8, 22] (fun _ _ _ _ i wr => ∃ k : Nat, k ≤ 2 ∧ i = .int .i64 k ∧ (∀ j (hj : j < [a, b].length), j < k → okText [a, b][j]) ∧ Below w0.heap.size w0 wr) (fun _ _ _ _ i _ => 2 - (intOf i).toNat)
  case atStart => exact ⟨0, by omega, rfl, fun j hj h => absurd h (by omega), Below.refl _ _⟩
  case round =>
    obtain ⟨k, hk, rfl, hok, hb0⟩ := hrel
    have HOK := Lib.hid hok
    clear hok
    have hb0s := hb0.size
    have hbw := hbw0.trans (hb0.mono hbw0.size)
    by_cases hlt : k < 2
    · have hkl : k < [a, b].length := hlt
      have hc : wr.cell? ⟨w.heap.size, k, none⟩ = some (.string [a, b][k]) := by
        rw [hb0.cell (by show w.heap.size < w0.heap.size; rw [HZ0.out]; omega), HW0.out]
        rw [cell_of_row _ w.heap.size k _ 9 (0, 0) (heap_alloc_new w _)]
        have hk2 : k = 0 ∨ k = 1 := by omega
        rcases hk2 with rfl | rfl <;> rfl
      have hsz : [a, b][k].size ≤ 2147483647 := by
        have hk2 : k = 0 ∨ k = 1 := by omega
        rcases hk2 with rfl | rfl
        · exact g1
        · exact g2
      have hstep : okText [a, b][k] → ∀ j (hj : j < [a, b].length), j < k + 1 → okText [a, b][j] := fun h j hj hjk => by
        rcases Nat.lt_or_ge j k with hlt2 | hge
        · exact HOK.out j hj hlt2
        · obtain rfl : j = k := by omega
          exact h
      generalize [a, b][k] = s at hc hsz hstep
      have HST := Lib.hid hstep
      clear hstep
      go_wp2_with fail
      go_loop [4, 7, 8, 28] (fun _ _ _ i => ∃ m : Nat, m ≤ s.size ∧ i = .int .i64 m ∧ ∀ j (hj : j < s.size), j < m → letter s[j]) (fun _ _ _ i => s.size - (intOf i).toNat)
      case atStart => exact ⟨0, Nat.zero_le _, rfl, fun j hj h => absurd h (by omega)⟩
      case round =>
        obtain ⟨m, hm, rfl, hlet⟩ := hrel
        have HLT := Lib.hid hlet
        clear hlet
        by_cases hms : m < s.size
        · by_cases hl : letter s[m]
          · have hnext : ∀ j (hj : j < s.size), j < m + 1 → letter s[j] := fun j hj hjm => by
              rcases Nat.lt_or_ge j m with h | h
              · exact HLT.out j hj h
              · obtain rfl : j = m := by omega
                exact hl
            have HN := Lib.hid hnext
            clear hnext
            unfold letter at hl
            rcases hl with ⟨p1, p2⟩ | ⟨p1, p2⟩
            all_goals
              go_wp2_with fail
              go_round
              case rel =>
                refine ⟨_, _, _, _, ?_, rfl, rfl, rfl, rfl⟩
                exact ⟨m + 1, by omega, by go_num, HN.out⟩
              case measure => simp [intOf]; omega
          · have hq : s[m].toNat < 65 ∨ (90 < s[m].toNat ∧ s[m].toNat < 97) ∨ 122 < s[m].toNat := by unfold letter at hl; omega
            clear hl
            rcases hq with p1 | ⟨p1, p2⟩ | p1
            all_goals
              go_wp2_with fail
              go_ret
              exact ⟨rfl, hbw⟩
        · have hall : ∀ c ∈ s.data.toList, letter c := fun c hcm => by
            obtain ⟨j, hj, he⟩ := List.getElem_of_mem hcm
            have hjs : j < s.size := by simpa using hj
            rw [← he]
            exact HLT.out j hjs (by omega)
          have HALL := Lib.hid hall
          clear hall
          by_cases h0 : s.size = 0
          · have he : s.toList.isEmpty = true := by
              rw [Lib.toList_data]
              have : s.data.toList = [] := List.eq_nil_of_length_eq_zero (by simpa using h0)
              rw [this]
              rfl
            clear h0
            go_wp2_with fail
            go_ret
            exact ⟨rfl, hbw⟩
          · have he : s.toList.isEmpty = false := by
              rw [Lib.toList_data]
              cases hd : s.data.toList with
              | nil => exact absurd (by simpa using congrArg List.length hd) h0
              | cons x xs => rfl
            have HSH := Lib.hid (short_any (some ⟨wr.heap.size, 0, none⟩) 1 (wr.heap.size + 1) [s] 1 (wr.alloc (.cells #[.string s] 9)) rfl (reads_one wr s _) (by omega) (by intro x hx; simp at hx; subst hx; omega))
            have hbwA : Below w.heap.size w (wr.alloc (.cells #[.string s] 9)) := hbw.alloc hbw.size _
            have hb0A : Below w0.heap.size w0 (wr.alloc (.cells #[.string s] 9)) := hb0.alloc hb0s _
            have hpos : 0 < s.size := by omega
            clear h0
            cases e4 : shortB [s] with
            | false =>
              rw [e4] at HSH
              clear e4
              go_wp2_with fail
              refine (HSH.out).mono ?_
              rintro e w' ⟨rfl, rfl⟩
              go_wp2_with fail
              go_ret
              exact ⟨rfl, hbwA⟩
            | true =>
              have h1000 : s.size ≤ 1000 := by simpa [shortB] using e4
              rw [e4] at HSH
              clear e4
              have HNX := Lib.hid (HST.out ⟨HALL.out, hpos, h1000⟩)
              go_wp2_with fail
              refine (HSH.out).mono ?_
              rintro e w' ⟨rfl, rfl⟩
              go_wp2_with fail
              go_roundw
              case rel => exact ⟨k + 1, by omega, by go_num, HNX.out, hb0A⟩
              case measure => simp [intOf]; omega
    · have ka : okText a := HOK.out 0 (by simp) (by omega)
      have kb : okText b := HOK.out 1 (by simp) (by omega)
      have hbn : b.data.toList ≠ [] := fun e => by
        have h1 := ba_len b
        have h2 := kb.2.1
        rw [e] at h1
        simp at h1
        omega
      have hline : ({ data := #[35, 99, 103, 111, 32] } ++ a ++ { data := #[58, 32] } ++ b : ByteArray).data.toList = cgoLine a.data.toList b.data.toList := by simp [ByteArray.data_append, cgoLine]
      have hcg := cgoLine_cgo a.data.toList b.data.toList ka.1 kb.1 hbn
      rw [← hline] at hcg
      have hsz : ({ data := #[35, 99, 103, 111, 32] } ++ a ++ { data := #[58, 32] } ++ b : ByteArray).size ≤ 1000000 := by
        rw [← ba_len, hline]
        have h1 := ka.2.2
        have h2 := kb.2.2
        have h3 := ba_len a
        have h4 := ba_len b
        simp only [cgoLine, List.length_cons, List.length_append]
        omega
      have C1 := cgoLines_any ({ data := #[35, 99, 103, 111, 32] } ++ a ++ { data := #[58, 32] } ++ b) wr hsz (HT.out.below hbw)
      rw [hcg] at C1
      have HC := Lib.hid C1
      have l1 := ka.2.2
      have l2 := kb.2.2
      clear C1 hcg hline hsz hbn ka kb HOK
      go_wp2_with fail
      have C2 := HC.out
      refine C2.mono ?_
      rintro e w3 ⟨A, c, rfl, hown, hb3⟩
      have hbw3 := hbw.trans (hb3.mono hbw.size)
      have hr := (reads_own hown).below ((Below.refl _ w3).alloc (Nat.le_refl _) (.cells #[.string ({ data := #[35, 99, 103, 111, 32] } ++ a ++ { data := #[58, 32] } ++ b)] 9))
      rw [strCs_baL] at hr
      have hr2 := reads_one w3 ({ data := #[35, 99, 103, 111, 32] } ++ a ++ { data := #[58, 32] } ++ b) 9
      have e1 : baL [({ data := #[35, 99, 103, 111, 32] } ++ a ++ { data := #[58, 32] } ++ b : ByteArray).data.toList] = [{ data := #[35, 99, 103, 111, 32] } ++ a ++ { data := #[58, 32] } ++ b] := by unfold baL; rw [List.map_cons, List.map_nil, ba_mk]
      rw [e1] at hr
      have hsame := sameTexts_any A (some ⟨w3.heap.size, 0, none⟩) c 1 (w3.heap.size + 1) _ _ 1 1 _ rfl rfl (hr.more (by omega)) hr2 (by omega) (by omega)
      have hs1 : sameB [{ data := #[35, 99, 103, 111, 32] } ++ a ++ { data := #[58, 32] } ++ b] [{ data := #[35, 99, 103, 111, 32] } ++ a ++ { data := #[58, 32] } ++ b] = true := by simp [sameB]
      rw [hs1] at hsame
      have HSM := Lib.hid hsame
      clear hown hr hr2 hsame hs1 e1 C2 HC
      go_wp2_with fail
      have C3 := HSM.out
      refine C3.mono ?_
      rintro e w5 ⟨rfl, rfl⟩
      clear C3 HSM
      go_wp2
      go_ret
      exact ⟨rfl, hbw3.alloc hbw3.size _⟩
end Go.Proofs.YtlbmdhpbogmkbaaDoor
