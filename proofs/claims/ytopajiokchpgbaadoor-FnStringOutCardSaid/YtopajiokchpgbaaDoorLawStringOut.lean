/-
  The law FnStringOut as a call: whatever the bytes ahead, the text and the cut, it returns true and leaves what was there.
-/
import Derived.Test.YtopajiokchpgbaaDoorLawStringAt
import Derived.Deep.RegionHeld3
import Derived.Deep.DrawnRows
namespace Go.Proofs.YtopajiokchpgbaaDoor
open Go.RowKit

attribute [local go_sem ↓] Go.wp_at_zero Go.wp_at_succ

theorem reads_take {w : World} {B : Nat} {A : Option Addr} {n : Nat} {l : List UInt8} (h : Reads w B 1 A n (Lib.byteCells l)) (m : Nat) (hm : m ≤ n) : Reads w B 1 A m (Lib.byteCells (l.take m)) := by
  have hl : l.length = n := by simpa [Lib.byteCells] using h.1
  refine ⟨by simp [Lib.byteCells]; omega, fun h0 => ?_⟩
  obtain ⟨ad, hA, hb, hc⟩ := h.2 (by omega)
  refine ⟨ad, hA, hb, fun j u hu => hc j u ?_⟩
  have hj := (List.getElem?_eq_some_iff.1 hu).1
  have hjm : j < m := by simp [Lib.byteCells] at hj; omega
  rw [← hu]
  simp [Lib.byteCells, hjm]

/-- A text cut off, behind any bytes: nothing that can be read. -/
theorem bad_cut (lb : List UInt8) (s : ByteArray) (m : Nat) (hs : s.size ≤ 1000) (hm : m < (cnt s).length) :
    (lb ++ (cnt s).take m).length ≤ lb.length ∨ ∃ x k, lb.length < (lb ++ (cnt s).take m).length ∧ Lib.uvarintDec ((lb ++ (cnt s).take m).drop lb.length) = (x, ((k : Nat) : Int)) ∧
      (k = 0 ∨ (k + lb.length ≤ (lb ++ (cnt s).take m).length ∧ (lb ++ (cnt s).take m).length < lb.length + k + x)) ∧ x < 9223372036854775807 := by
  have hcl : (cnt s).length = (Lib.uvarint s.size).length + s.size := by unfold cnt; simp
  have hup := Lib.uvarint_pos s.size
  have hu2 := Lib.uvarint_length 1 s.size (by omega)
  have hlen : (lb ++ (cnt s).take m).length = lb.length + m := by simp; omega
  rw [hlen, List.drop_left]
  by_cases h0 : m = 0
  · left; omega
  right
  by_cases h1 : (Lib.uvarint s.size).length ≤ m
  · refine ⟨s.size, (Lib.uvarint s.size).length, by omega, ?_, .inr ⟨by omega, by omega⟩, by omega⟩
    unfold cnt
    rw [List.take_append, List.take_of_length_le h1]
    exact uvarintDec_uvarint s.size (by omega) _
  · have hm1 : m = 1 := by omega
    have hbig : 128 ≤ s.size := by
      rcases Nat.lt_or_ge s.size 128 with h | h
      · rw [Lib.uvarint_small h] at h1
        simp at h1
        omega
      · exact h
    refine ⟨0, 0, by omega, ?_, .inl rfl, by omega⟩
    subst hm1
    unfold cnt
    rw [Lib.uvarint_big hbig]
    exact uvarintDec_cut s.size

set_option maxHeartbeats 4000000 in
theorem fnStringOut_any (vb : Value) (lb : List UInt8) (s : ByteArray) (cut : Int) (a : Addr) (w : World) (hE : w.cell? ⟨0, 0, none⟩ = some (.iface 56 (.pointer (some a)))) (hb : BS w vb lb) (hs : s.size ≤ maxLen)
    (hlo : -9223372036854775808 ≤ cut) (hhi : cut ≤ 9223372036854775807) :
    Calls Tryd.prog 6 #[vb, .string s, .int .i64 cut] w fun e w' => e = .returned (.bool true) ∧ Below w.heap.size w w' := by
  obtain ⟨A, c, rfl, hA⟩ := id hb
  unfold maxLen at hs
  have hbm : lb.length ≤ 9223372036854775807 := by have h := hA.1; have h2 := hA.2.1; simp only [maxLen] at h2; omega
  clear hA
  have h0 := World.block_lt_of_cell? w _ hE
  have HE := Lib.hid hE
  clear hE
  by_cases h1 : 300 < lb.length ∨ 2147483647 < s.size
  · go_enter Tryd.func6, Tryd.ntmps6
    go_wp2_with fail
    all_goals first
      | (go_ret; exact ⟨rfl, Below.refl _ _⟩)
      | skip
    all_goals (exfalso; omega)
  obtain ⟨g1, g3⟩ : lb.length ≤ 300 ∧ s.size ≤ 2147483647 := by omega
  clear h1
  have hsh := fun W : World => short_any (some ⟨W.heap.size, 0, none⟩) 1 (W.heap.size + 1) [s] 1 (W.alloc (.cells #[.string s] 9)) rfl (reads_one W s _) (by omega) (by intro x hx; simp at hx; subst hx; omega)
  have HSH := Lib.hid hsh
  clear hsh
  have hbw0 : Below w.heap.size w (w.alloc (.cells #[.string s] 9)) := (Below.refl _ _).alloc (Nat.le_refl _) _
  by_cases h4 : s.size ≤ 1000
  · have e4 : shortB [s] = true := by simp [shortB, h4]
    by_cases h5 : cut < 1 ∨ (s.size : Int) + 1 < cut
    · go_enter Tryd.func6, Tryd.ntmps6
      go_wp2_with fail
      refine (HSH.out w).mono ?_
      rw [e4]
      rintro e w' ⟨rfl, rfl⟩
      clear e4
      go_wp2_with fail
      all_goals first
        | (go_ret; exact ⟨rfl, hbw0⟩)
        | skip
      all_goals (exfalso; omega)
    obtain ⟨g5, g6⟩ : 1 ≤ cut ∧ cut ≤ (s.size : Int) + 1 := by omega
    clear h5
    obtain ⟨n, rfl⟩ := Int.eq_ofNat_of_zero_le (show 0 ≤ cut by omega)
    obtain ⟨i0, hi0, hz0, hz1, hz2⟩ := info_parts byte_info
    have hcl := cnt_length_le s h4
    go_enter Tryd.func6, Tryd.ntmps6
    go_wp2_with fail
    refine (HSH.out w).mono ?_
    rw [e4]
    rintro e w' ⟨rfl, rfl⟩
    clear e4
    go_wp2_with fail
    refine (counted_any2 s _ h4).mono ?_
    rintro e w2 ⟨A3, c3, rfl, hown2, hb2⟩
    have hbw2 : Below w.heap.size w w2 := hbw0.trans (hb2.mono hbw0.size)
    have hbs2 := bs_of_own hown2
    have hbad := fun m (hm : m < (cnt s).length) => bad_cut lb s m h4 hm
    generalize hcn : cnt s = cs at hown2 hcl hbs2 hbad ⊢
    have HB := Lib.hid hbad
    have hr2 := reads_of_bs hbs2
    have hcc : cs.length ≤ c3 ∧ c3 ≤ 9223372036854775807 := by
      obtain ⟨A', c', hv, h1, h2, _⟩ := hbs2
      injection hv with _ _ hc
      subst hc
      exact ⟨h1, h2⟩
    clear hcn hown2 hbad hbs2 hb2
    by_cases h6 : cs.length < n
    · go_wp2_with fail
      go_ret
      exact ⟨rfl, hbw2⟩
    · go_wp2_with fail
      obtain ⟨m, hm⟩ : ∃ m, m = cs.length - n := ⟨_, rfl⟩
      have hwr : IntKind.i64.wrap ((cs.length : Int) - (n : Int)) = (m : Int) := by rw [IntWalk.i64_in _ (by omega)]; omega
      have hm0 : (0 : Int) ≤ (m : Int) := by omega
      have hm1 : (m : Int) ≤ (c3 : Int) := by omega
      have hmn : m < cs.length := by omega
      have hr3 := reads_take hr2 m (by omega)
      have hml : (cs.take m).length = m := by simp; omega
      have HML := Lib.hid hml
      clear hm hml hr2 g6
      have HWR := Lib.hid hwr
      clear hwr
      have hwr := HWR.out
      go_region_held3 (fun _ => True) (trivial) (first | (refine step_append_any _ (by rfl) (.tmp 47) (.tmp 48) _ (by rfl) w.heap.size 5 i0 _ 1 1 Tryd.underlying22 hi0 hz0 hz1 hz2 (by rfl) (by clear hwr; omega) (.slice (some ⟨w2.heap.size, 0, none⟩) 0 0) 0 [] (by rfl) (own_empty _ _ _ _ (by simp) (by clear hwr; have := hbw2.size; omega)) _ A lb.length c (Lib.byteCells lb) (by rfl) (reads_of_bs ((hb.below hbw2).alloc _)) (byteCells_oneCell lb) (by clear hwr; simp only [maxLen]; omega) (by clear hwr; omega) (by clear hwr; have := hbw2.size; simp; omega) ?_; intro v1 w3 hown3 hg3 hat3; have hb23 : Below w2.heap.size w2 w3 := (by first | exact (((Below.refl _ w2).alloc (Nat.le_refl _) _).grown hg3 (by simp) (by simp [Value.ownBlock])) | exact (((Below.refl _ w2).alloc (Nat.le_refl _) _).drew.grown hg3 (by simp) (by simp [Value.ownBlock])))) | (refine step_append_any _ (by rfl) (.tmp 49) (.tmp 55) _ (by rfl) w.heap.size 5 i0 _ 1 1 Tryd.underlying22 hi0 hz0 hz1 hz2 (by rfl) (by clear hwr; omega) v1 _ _ (by rfl) hown3 _ A3 m c3 (Lib.byteCells (cs.take m)) (by rfl) (hr3.below hb23) (byteCells_oneCell _) (by clear hwr; simp only [maxLen]; omega) (by clear hwr; omega) (by clear hwr; have := hbw2.size; have := hb23.size; omega) ?_; intro v4 w4 hown4 hg4 hat4; have hbw4 : Below w.heap.size w w4 := (hbw2.trans (hb23.mono hbw2.size)).grown hg4 (by clear hwr; have := hbw2.size; have := hb23.size; omega) (fun k hk => (hown3.lt k hk).1); have hbs4 : BS w4 v4 (lb ++ cs.take m) := bs_of_own (by rw [byteCells_append]; simpa using hown4); have hl4 : (lb ++ cs.take m).length ≤ 1000000 := (by rw [List.length_append, HML.out]; clear hwr; omega)) | (go_at_call 10; refine (stringAtImpl_bad v4 _ lb.length a w4 ((hbw4.cell h0).trans HE.out) hbs4 hl4 (HB.out m hmn)).mono ?_; rintro e w5 ⟨rfl, hb5⟩))
      have hbw5 : Below w.heap.size w w5 := hbw4.trans (hb5.mono hbw4.size)
      clear hwr hr3 hown3 hown4 hbs4 hl4 hg3 hg4 hat3 hat4 HML HWR HB
      go_wp2_with fail
      refine (counted_any2 { data := #[97] } w5 (by decide)).mono ?_
      rintro e w6 ⟨A6, c6, rfl, hown6, hb6⟩
      have hbs6 := bs_of_own hown6
      have hbw6 : Below w.heap.size w w6 := hbw5.trans (hb6.mono hbw5.size)
      have hc97 : cnt { data := #[97] } = [1, 97] := by unfold cnt; rw [Lib.uvarint_small (by decide)]; rfl
      have HF := stringAtImpl_ok _ (cnt { data := #[97] }) 0 1 1 w6 hbs6 (by rw [hc97]; decide) (by rw [hc97]; decide) (by decide) (by rw [hc97]; decide) (by rw [hc97]; decide)
      generalize (⟨(((cnt { data := #[97] }).drop (0 + 1)).take 1).toArray⟩ : ByteArray) = s6 at HF
      have HF' := Lib.hid HF
      clear HF hc97 hown6 hbs6
      go_wp2_with fail
      refine Calls.mono (HF'.out) ?_
      rintro e w7 ⟨rfl, hb7⟩
      go_wp2
      go_ret
      exact ⟨rfl, hbw6.trans (hb7.mono hbw6.size)⟩
  · have e4 : shortB [s] = false := by simp [shortB]; omega
    go_enter Tryd.func6, Tryd.ntmps6
    go_wp2_with fail
    refine (HSH.out w).mono ?_
    rw [e4]
    rintro e w' ⟨rfl, rfl⟩
    clear e4
    go_wp2_with fail
    go_ret
    exact ⟨rfl, hbw0⟩
end Go.Proofs.YtopajiokchpgbaaDoor
