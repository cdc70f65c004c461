/-
  Contracts of the reference's functions that FnCgo calls: plain, linesOf, Trimmed, IsCgo, Words, Bare. Condition: texts of at most 1000 bytes.
-/
import Derived.Test.YtlbmdhpbogmkbaaDoorLawCgoOne
namespace Go.Proofs.YtlbmdhpbogmkbaaDoor
open Go.RowKit

/-- A byte that can be printed, a tab or a newline. -/
def plainB (b : UInt8) : Bool := (decide (32 ≤ b.toNat) && decide (b.toNat < 127)) || b == 9 || b == 10

def allPlain (l : List UInt8) : Bool := l.all plainB

theorem allPlain_false {l : List UInt8} {k : Nat} (hk : k < l.length) (h : plainB l[k] = false) : allPlain l = false := by
  unfold allPlain
  rw [List.all_eq_false]
  exact ⟨l[k], List.getElem_mem hk, by simp [h]⟩

set_option maxHeartbeats 1000000 in
theorem plain_any (s : ByteArray) (w : World) (hs : s.size ≤ 1000) :
    Calls Tryd.prog 7 #[.string s] w fun e w' => e = .returned (.bool (allPlain s.data.toList)) ∧ w = w' := by
  go_enter Tryd.func7, Tryd.ntmps7
  go_wp2
  go_loop [3, 4, 7] (fun _ _ i => ∃ k : Nat, k ≤ s.size ∧ i = .int .i64 k ∧ ∀ j (hj : j < s.size), j < k → plainB s[j] = true) (fun _ _ i => s.size - (intOf i).toNat)
  case atStart => exact ⟨0, Nat.zero_le _, rfl, fun j hj h => absurd h (by omega)⟩
  case round =>
    obtain ⟨k, hk, rfl, hp⟩ := hrel
    have HP := Lib.hid hp
    clear hp
    by_cases hlt : k < s.size
    · have hnext : plainB s[k] = true → ∀ j (hj : j < s.size), j < k + 1 → plainB s[j] = true := fun h j hj hjk => by
        rcases Nat.lt_or_ge j k with h2 | h2
        · exact HP.out j hj h2
        · obtain rfl : j = k := by omega
          exact h
      have HN := Lib.hid hnext
      clear hnext
      by_cases c1 : 32 ≤ s[k].toNat ∧ s[k].toNat < 127
      · have hq : plainB s[k] = true := by unfold plainB; simp [c1]
        have HQ := Lib.hid (HN.out hq)
        clear hq
        obtain ⟨c1, c2⟩ := c1
        go_wp2_with fail
        go_round
        case rel => exact ⟨k + 1, by omega, by go_num, HQ.out⟩
        case measure => simp [intOf]; omega
      by_cases c2 : s[k].toNat = 9 ∨ s[k].toNat = 10
      · have hq : plainB s[k] = true := by
          unfold plainB
          rcases c2 with h | h
          · have : s[k] = 9 := UInt8.toNat_inj.1 h
            simp [this]
          · have : s[k] = 10 := UInt8.toNat_inj.1 h
            simp [this]
        have HQ := Lib.hid (HN.out hq)
        clear hq c1
        rcases c2 with c2 | c2
        all_goals
          go_wp2_with fail
          go_round
          case rel => exact ⟨k + 1, by omega, by go_num, HQ.out⟩
          case measure => simp [intOf]; omega
      · have hq : plainB s[k] = false := by
          unfold plainB
          have h1 : s[k] ≠ 9 := fun e => c2 (.inl (by rw [e]; rfl))
          have h2 : s[k] ≠ 10 := fun e => c2 (.inr (by rw [e]; rfl))
          have h3 : (decide (32 ≤ s[k].toNat) && decide (s[k].toNat < 127)) = false := by
            simp only [Bool.and_eq_false_iff, decide_eq_false_iff_not]
            omega
          simp [h1, h2, h3]
        have hres : allPlain s.data.toList = false := allPlain_false (k := k) (by simpa using hlt) hq
        have HR := Lib.hid hres
        have d1 : (((s[k].toNat : Nat) : Int) != 9) = true := by rw [bne_iff_ne]; omega
        have d2 : (((s[k].toNat : Nat) : Int) != 10) = true := by rw [bne_iff_ne]; omega
        clear hq hres
        rcases (show s[k].toNat < 32 ∨ 127 ≤ s[k].toNat by omega) with d3 | d3
        all_goals
          clear c1 c2
          go_wp2_with fail
          go_ret
          exact ⟨by rw [HR.out]; rfl, rfl⟩
    · have hres : allPlain s.data.toList = true := by
        unfold allPlain
        rw [List.all_eq_true]
        intro c hc
        obtain ⟨j, hj, he⟩ := List.getElem_of_mem hc
        have hjs : j < s.size := by simpa using hj
        rw [← he]
        exact HP.out j hjs (by omega)
      have HR := Lib.hid hres
      clear hres
      go_wp2_with fail
      go_ret
      exact ⟨by rw [HR.out]; rfl, rfl⟩

set_option maxHeartbeats 1000000 in
theorem isCgo_any (t : ByteArray) (w : World) (hs : t.size ≤ 1000) :
    Calls Tryd.prog 10 #[.string t] w fun e w' => e = .returned (.bool (isCgoL t.data.toList)) ∧ w = w' := by
  by_cases h5 : t.size < 5
  · have hf : isCgoL t.data.toList = false := by unfold isCgoL; simp; omega
    have HF := Lib.hid hf
    clear hf
    go_enter Tryd.func10, Tryd.ntmps10
    go_wp2
    go_ret
    exact ⟨by rw [HF.out]; rfl, rfl⟩
  have h4s : 4 < t.size := by omega
  have h4 : (t.data.toList)[4]? = some (t[4]'h4s) := by rw [List.getElem?_eq_getElem (by simpa using h4s)]; rfl
  by_cases hp : t.data.toList.take 4 = [35, 99, 103, 111]
  · have hpt : ((t.extract 0 4).toList == [35, 99, 103, 111]) = true := by rw [Lib.toList_data, extract_toList]; simp [hp]
    by_cases hg : (t[4]'h4s).toNat = 32 ∨ (t[4]'h4s).toNat = 9
    · have hf : isCgoL t.data.toList = true := by
        unfold isCgoL
        rw [hp, h4]
        have h5' : 5 ≤ t.data.toList.length := by simp; omega
        rcases hg with h | h
        · have : t[4]'h4s = 32 := UInt8.toNat_inj.1 h
          simp [this]; omega
        · have : t[4]'h4s = 9 := UInt8.toNat_inj.1 h
          simp [this]; omega
      have HF := Lib.hid hf
      clear hf hp h4
      rcases hg with hg | hg
      all_goals
        go_enter Tryd.func10, Tryd.ntmps10
        go_wp2
        go_ret
        exact ⟨by rw [HF.out]; rfl, rfl⟩
    · have hf : isCgoL t.data.toList = false := by
        unfold isCgoL
        rw [h4]
        have h1 : (t[4]'h4s) ≠ 32 := fun e => hg (.inl (by rw [e]; rfl))
        have h2 : (t[4]'h4s) ≠ 9 := fun e => hg (.inr (by rw [e]; rfl))
        simp [h1, h2]
      have HF := Lib.hid hf
      have n1 : ((((t[4]'h4s).toNat : Nat) : Int) == 32) = false := by rw [beq_eq_false_iff_ne]; omega
      have n2 : ((((t[4]'h4s).toNat : Nat) : Int) == 9) = false := by rw [beq_eq_false_iff_ne]; omega
      clear hf hp h4 hg
      go_enter Tryd.func10, Tryd.ntmps10
      go_wp2
      go_ret
      exact ⟨by rw [HF.out]; rfl, rfl⟩
  · have hf : isCgoL t.data.toList = false := by
      unfold isCgoL
      simp [hp]
    have HF := Lib.hid hf
    have hpt : ((t.extract 0 4).toList == [35, 99, 103, 111]) = false := by rw [Lib.toList_data, extract_toList]; simpa using hp
    clear hf hp h4
    go_enter Tryd.func10, Tryd.ntmps10
    go_wp2
    go_ret
    exact ⟨by rw [HF.out]; rfl, rfl⟩

/-- A blank or a tab. -/
def bt (b : UInt8) : Prop := b.toNat = 32 ∨ b.toNat = 9

/-- What is left of a text without blanks and tabs at both ends. -/
def IsTrim (l t : List UInt8) : Prop :=
  ∃ lo m, t = (l.drop lo).take m ∧ lo + m ≤ l.length ∧ (∀ j (hj : j < l.length), j < lo ∨ lo + m ≤ j → bt l[j]) ∧ (m = 0 ∨ ((∀ h : lo < l.length, ¬ bt l[lo]) ∧ ∀ h : lo + m - 1 < l.length, ¬ bt l[lo + m - 1]))

theorem bt_isSp {b : UInt8} (h : bt b) : Lib.isSp b = true := by
  rcases h with h | h
  · have : b = 32 := UInt8.toNat_inj.1 h
    subst this
    decide
  · have : b = 9 := UInt8.toNat_inj.1 h
    subst this
    decide

theorem not_isSp {b : UInt8} (h : ¬ bt b) (hp : plainB b = true) (hn : b ≠ 10) : Lib.isSp b = false ∧ b.toNat < 128 := by
  have hp2 : (32 ≤ b.toNat ∧ b.toNat < 127) ∨ b = 9 ∨ b = 10 := by
    unfold plainB at hp
    simp only [Bool.or_eq_true, Bool.and_eq_true, decide_eq_true_eq, beq_iff_eq] at hp
    rcases hp with (h | h) | h
    · exact .inl h
    · exact .inr (.inl h)
    · exact .inr (.inr h)
  have h32 : b.toNat ≠ 32 := fun e => h (.inl e)
  have h9 : b ≠ 9 := fun e => h (.inr (by rw [e]; rfl))
  have hr : 32 ≤ b.toNat ∧ b.toNat < 127 := by
    rcases hp2 with h | h | h
    · exact h
    · exact absurd h h9
    · exact absurd h hn
  refine ⟨?_, by omega⟩
  unfold Lib.isSp
  have e : ∀ c : UInt8, c.toNat < 32 → b ≠ c := fun c hc e => by subst e; omega
  have h1 := e 9 (by decide)
  have h2 := e 10 (by decide)
  have h3 := e 11 (by decide)
  have h4 := e 12 (by decide)
  have h5 := e 13 (by decide)
  have h6 : b ≠ 32 := fun e => h32 (by rw [e]; rfl)
  simp [h1, h2, h3, h4, h5, h6]

theorem trim_of_isTrim {l t : List UInt8} (h : IsTrim l t) (hp : ∀ b ∈ l, plainB b = true ∧ b ≠ 10) : Lib.trimSpaceD l = t := by
  obtain ⟨lo, m, ht, hlen, hb, he⟩ := h
  rcases he with h0 | ⟨h1, h2⟩
  · subst h0
    rw [ht, List.take_zero]
    refine Lib.exit_all l fun j b hjb => ?_
    obtain ⟨hj, rfl⟩ := List.getElem?_eq_some_iff.1 hjb
    exact bt_isSp (hb j hj (by omega))
  · by_cases hm : m = 0
    · subst hm
      rw [ht, List.take_zero]
      refine Lib.exit_all l fun j b hjb => ?_
      obtain ⟨hj, rfl⟩ := List.getElem?_eq_some_iff.1 hjb
      exact bt_isSp (hb j hj (by omega))
    have hlo : lo < l.length := by omega
    have hhi : lo + m - 1 < l.length := by omega
    have a1 := not_isSp (h1 hlo) (hp _ (List.getElem_mem hlo)).1 (hp _ (List.getElem_mem hlo)).2
    have a2 := not_isSp (h2 hhi) (hp _ (List.getElem_mem hhi)).1 (hp _ (List.getElem_mem hhi)).2
    rw [Lib.exit_cut l lo (lo + m - 1) (by omega) hhi (fun j b hj hjb => by
        obtain ⟨hjl, rfl⟩ := List.getElem?_eq_some_iff.1 hjb
        exact bt_isSp (hb j hjl (by omega))) _ (List.getElem?_eq_getElem hlo) a1.1 a1.2 _ (List.getElem?_eq_getElem hhi) a2.1 a2.2 (fun j b hj hjb => by
        obtain ⟨hjl, rfl⟩ := List.getElem?_eq_some_iff.1 hjb
        exact bt_isSp (hb j hjl (by omega)))]
    rw [ht]
    congr 1
    omega
end Go.Proofs.YtlbmdhpbogmkbaaDoor
