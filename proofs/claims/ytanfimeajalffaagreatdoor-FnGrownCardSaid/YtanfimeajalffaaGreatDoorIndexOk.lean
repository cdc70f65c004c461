/-
  The contract of indexOk: what it answers is sound. Conditions: the premises of each theorem.
-/
import Derived.Test.YtanfimeajalffaaGreatDoorGE
import Derived.Test.YtanfimeajalffaaGreatDoorEncMod
import Derived.Test.YtanfimeajalffaaGreatDoorGC
namespace Go.Proofs.YtanfimeajalffaaGreatDoor
open Go.RowKit
attribute [local go_sem ↓] Go.wp_at_zero Go.wp_at_succ

/-- The folders lie in their order, each once. -/
def Strict (ps : List PkgD) : Prop := ∀ k (hk : k + 1 < ps.length), Lib.compareBytes ps[k].dir.data.toList ps[k + 1].dir.data.toList = -1

theorem cmp_refl : ∀ a : List UInt8, Lib.compareBytes a a = 0
  | [] => rfl
  | x :: a => by
    unfold Lib.compareBytes
    rw [if_neg (by simp), if_neg (by simp)]
    exact cmp_refl a
theorem cmp_less : ∀ a b : List UInt8, Op.bytesLess a b = true ↔ Lib.compareBytes a b = -1
  | [], [] => by simp [Op.bytesLess, Lib.compareBytes]
  | [], _ :: _ => by simp [Op.bytesLess, Lib.compareBytes]
  | _ :: _, [] => by simp [Op.bytesLess, Lib.compareBytes]
  | x :: a, y :: b => by
    have ih := cmp_less a b
    unfold Op.bytesLess Lib.compareBytes
    by_cases hxy : x = y
    · subst hxy
      simp [ih]
    · by_cases h1 : x < y
      · simp [h1]
      · have h2 : y < x := by
          apply UInt8.lt_iff_toNat_lt.2
          have a1 : ¬ x.toNat < y.toNat := fun h => h1 (UInt8.lt_iff_toNat_lt.2 h)
          have a2 : x.toNat ≠ y.toNat := fun h => hxy (UInt8.toNat_inj.1 h)
          omega
        simp [h1, h2, hxy]
theorem cmp_tri : ∀ a b : List UInt8, (Lib.compareBytes a b = -1 ∧ Lib.compareBytes b a = 1) ∨ (a = b) ∨ (Lib.compareBytes a b = 1 ∧ Lib.compareBytes b a = -1)
  | [], [] => .inr (.inl rfl)
  | [], _ :: _ => .inl ⟨rfl, rfl⟩
  | _ :: _, [] => .inr (.inr ⟨rfl, rfl⟩)
  | x :: a, y :: b => by
    have ih := cmp_tri a b
    unfold Lib.compareBytes
    by_cases h1 : x < y
    · have h2 : ¬ y < x := fun h => by
        have a1 := UInt8.lt_iff_toNat_lt.1 h1
        have a2 := UInt8.lt_iff_toNat_lt.1 h
        omega
      simp [h1, h2]
    · by_cases h2 : y < x
      · simp [h1, h2]
      · have hxy : x = y := by
          apply UInt8.toNat_inj.1
          have a1 : ¬ x.toNat < y.toNat := fun h => h1 (UInt8.lt_iff_toNat_lt.2 h)
          have a2 : ¬ y.toNat < x.toNat := fun h => h2 (UInt8.lt_iff_toNat_lt.2 h)
          omega
        subst hxy
        simpa [h1] using ih

/-- What is known of the packages ahead of k. -/
def Upto (ps : List PkgD) (k : Nat) : Prop := (∀ p ∈ ps.take k, p.Ok) ∧ ∀ j x y, j + 1 < k → ps[j]? = some x → ps[j + 1]? = some y → Lib.compareBytes x.dir.data.toList y.dir.data.toList = -1
theorem upto_succ {ps : List PkgD} {k : Nat} (h : Upto ps k) (hk : k < ps.length) (hp : ps[k].Ok) (hq : ∀ x, 0 < k → ps[k - 1]? = some x → Lib.compareBytes x.dir.data.toList ps[k].dir.data.toList = -1) : Upto ps (k + 1) := by
  refine ⟨fun p hm => ?_, fun j x y hj hx hy => ?_⟩
  · rw [List.take_add_one, List.getElem?_eq_getElem hk, List.mem_append] at hm
    rcases hm with hm | hm
    · exact h.1 p hm
    · simp at hm
      rw [hm]
      exact hp
  · by_cases hjk : j + 1 = k
    · subst hjk
      rw [List.getElem?_eq_getElem hk] at hy
      injection hy with hy
      rw [← hy]
      exact hq x (by omega) (by simpa using hx)
    · exact h.2 j x y (by omega) hx hy
theorem le_no {a b : ByteArray} (h : ¬ (Op.bytesLess a.toList b.toList = true ∨ a.toList = b.toList)) : Lib.compareBytes b.data.toList a.data.toList = -1 := by
  have e1 : a.toList = a.data.toList := ByteArray.toList_eq a
  have e2 : b.toList = b.data.toList := ByteArray.toList_eq b
  rw [e1, e2, cmp_less] at h
  rcases cmp_tri a.data.toList b.data.toList with h1 | h1 | h1
  · exact absurd (.inl h1.1) h
  · exact absurd (.inr h1) h
  · exact h1.2

set_option maxHeartbeats 4000000 in
set_option maxRecDepth 100000 in
theorem indexOk_any (B : Nat) (v : Value) (ps : List PkgD) (w : World) (hB : B ≤ w.heap.size) (hl : ps.length ≤ 9223372036854775807) (hw : ∀ p ∈ ps, p.Wide) (hd : PkgsAt w B v ps) : Calls Tryz.prog 8 #[v] w (Sound (PkgsOk ps ∧ Strict ps) w) := by
  obtain ⟨A, c, rfl⟩ := ListAt.form hd
  have HV := Lib.hid hd
  have HW := Lib.hid hw
  clear hd hw
  go_enter Tryz.func8, Tryz.ntmps8
  go_wp2_with fail
  go_loopw [3, 4, 6, 9] (fun _ _ _ i wr => ∃ k : Nat, k ≤ ps.length ∧ i = .int .i64 k ∧ Below w.heap.size w wr ∧ Upto ps k) (fun _ _ _ i _ => ps.length - (intOf i).toNat)
  case atStart => exact ⟨0, Nat.zero_le _, rfl, Below.refl _ _, by simp, fun j _ _ h => by omega⟩
  case round =>
    obtain ⟨k, hk, rfl, hF, hup⟩ := hrel
    obtain ⟨wo, rfl⟩ : ∃ wo : World, wo = wr := ⟨_, rfl⟩
    have hsz := hF.size
    by_cases hlt : k < ps.length
    · have hat := PkgsAt.below HV.out (hF.mono hB)
      obtain ⟨gp, op, cs, rfl, hgp, hlen, ⟨vf, rfl, hfs⟩, hcell⟩ := hat.get (by omega) k hlt
      have c0 : wo.cell? ⟨gp, op + k * 3, none⟩ = some (.string ps[k].err) := hcell 0 _ rfl
      have c1 : wo.cell? ⟨gp, op + k * 3 + 1, none⟩ = some (.string ps[k].dir) := hcell 1 _ rfl
      have c2 : wo.cell? ⟨gp, op + k * 3 + 2, none⟩ = some vf := hcell 2 _ rfl
      have hprev : 0 < k → ∃ q, wo.cell? ⟨gp, op + (k - 1) * 3 + 1, none⟩ = some (.string q) ∧ ∃ hq : k - 1 < ps.length, ps[k - 1].dir = q := by
        intro h0
        obtain ⟨g2, o2, cs2, he, _, _, ⟨vf2, rfl, _⟩, hcell2⟩ := hat.get (by omega) (k - 1) (by omega)
        injection he with he
        injection he with he1 he2
        subst he1
        subst he2
        exact ⟨_, hcell2 1 _ rfl, by omega, rfl⟩
      have hup2 := Lib.hid (fun h hq => upto_succ hup hlt h hq)
      have hwp := HW.out _ (List.getElem_mem hlt)
      have HPV := Lib.hid hprev
      generalize ps[k] = p at c0 c1 c2 hfs hup2 hwp
      obtain ⟨Af, cf, rfl⟩ := hfs.form
      have HFS := Lib.hid hfs
      have HWP := Lib.hid hwp
      have HFW := hwp.files
      have hgpl : gp < wo.heap.size := Nat.lt_of_lt_of_le hgp (Nat.le_trans hB hsz)
      have hF2o : Below w.heap.size wo ((wo.alloc (.cells #[.string p.err, .string p.dir, .slice Af p.files.length cf] 32)).alloc (.cells #[.string p.err, .string p.dir] 9)).drew := (((Below.refl _ _).alloc hsz _).alloc (by simp; omega) _).drew
      have hF2 : Below w.heap.size w ((wo.alloc (.cells #[.string p.err, .string p.dir, .slice Af p.files.length cf] 32)).alloc (.cells #[.string p.err, .string p.dir] 9)).drew := hF.trans hF2o
      have S1 := Lib.hid (short_any (wo.heap.size + 2) (.slice (some ⟨wo.heap.size + 1, 0, none⟩) 2 2) [p.err, p.dir] ((wo.alloc (.cells #[.string p.err, .string p.dir, .slice Af p.files.length cf] 32)).alloc (.cells #[.string p.err, .string p.dir] 9)).drew (by simp) (strs_new (wo.alloc (.cells #[.string p.err, .string p.dir, .slice Af p.files.length cf] 32)) #[.string p.err, .string p.dir] [p.err, p.dir] 2 (wo.heap.size + 1) rfl (by simp) rfl))
      clear hcell hfs hwp hup hat hprev hlen
      by_cases h1 : shortB [p.err, p.dir] = false
      · skip
        go_wp2_with fail
        refine wp_region_m 99 (fun W => (∀ j, W.cell? ⟨wo.heap.size, j, none⟩ = (#[.string p.err, .string p.dir, .slice Af p.files.length cf] : Array Value)[j]?)) (by kernel_rfl) ?_
        have hHeld : (∀ j, (wo.alloc (.cells #[.string p.err, .string p.dir, .slice Af p.files.length cf] 32)).drew.cell? ⟨wo.heap.size, j, none⟩ = (#[.string p.err, .string p.dir, .slice Af p.files.length cf] : Array Value)[j]?) := (Blk.new wo 32 #[.string p.err, .string p.dir, .slice Af p.files.length cf]).cell
        refine wpAnyM_take (i := 0) (oi := ⟨some 14, _, _, _, _, _⟩) (v := (.pointer (some ⟨wo.heap.size, 0, none⟩))) rfl (by kernel_rfl) (by kernel_rfl) (by kernel_rfl) (by kernel_rfl) (by decide) (fun _ _ _ h => h) (by assumption) (Or.inl ⟨by rfl, ?_⟩) ?_
        · intro W hSW
          (try dsimp only at hSW)
          go_simp
        (try go_frame)
        refine wpAnyM_take (i := 1) (oi := ⟨some 15, _, _, _, _, _⟩) (v := (.string p.err)) rfl (by kernel_rfl) (by kernel_rfl) (by kernel_rfl) (by kernel_rfl) (by decide) (fun _ _ _ h => h) (by assumption) (Or.inl ⟨by rfl, ?_⟩) ?_
        · intro W hSW
          (try dsimp only at hSW)
          go_simp
        (try go_frame)
        refine wpAnyM_take (i := 2) (oi := ⟨some 16, _, _, _, _, _⟩) (v := (.pointer (some ⟨wo.heap.size, 1, none⟩))) rfl (by kernel_rfl) (by kernel_rfl) (by kernel_rfl) (by kernel_rfl) (by decide) (fun _ _ _ h => h) (by assumption) (Or.inl ⟨by rfl, ?_⟩) ?_
        · intro W hSW
          (try dsimp only at hSW)
          go_simp
        (try go_frame)
        refine wpAnyM_take (i := 3) (oi := ⟨some 17, _, _, _, _, _⟩) (v := (.string p.dir)) rfl (by kernel_rfl) (by kernel_rfl) (by kernel_rfl) (by kernel_rfl) (by decide) (fun _ _ _ h => h) (by assumption) (Or.inl ⟨by rfl, ?_⟩) ?_
        · intro W hSW
          (try dsimp only at hSW)
          go_simp
        (try go_frame)
        refine wpAnyM_only (i := 4) (oi := ⟨some 18, _, _, _, _, _⟩) rfl (by kernel_rfl) (fun K hK => ?_)
        go_simp
        have hHeld2 : (∀ j, (((wo.alloc (.cells #[.string p.err, .string p.dir, .slice Af p.files.length cf] 32)).alloc (.cells #[.string p.err, .string p.dir] 9)).drew).cell? ⟨wo.heap.size, j, none⟩ = (#[.string p.err, .string p.dir, .slice Af p.files.length cf] : Array Value)[j]?) := keepCells (Below.heap_alloc (wo.alloc (.cells #[.string p.err, .string p.dir, .slice Af p.files.length cf] 32)) _ _ (by simp)) hHeld
        refine hK.out _ _ (.inr hHeld2) ?_
        clear hK K
        (try go_frame)
        clear hHeld
        refine wpAnyM_only (i := 5) (oi := ⟨some 19, _, _, _, _, _⟩) rfl (by kernel_rfl) (fun K hK => ?_)
        go_simp
        refine (S1.out).mono ?_
        rintro e w1 ⟨rfl, rfl⟩
        go_wp2_with fail
        refine hK.out _ _ (.inr hHeld2) ?_
        clear hK K
        (try go_frame)
        refine wpAnyM_take (i := 6) (oi := ⟨some 20, _, _, _, _, _⟩) (v := (.bool true)) rfl (by kernel_rfl) (by kernel_rfl) (by kernel_rfl) (by kernel_rfl) (by decide) (fun _ _ _ h => h) (by assumption) (Or.inl ⟨by rfl, ?_⟩) ?_
        · intro W hSW
          (try dsimp only at hSW)
          go_simp
        (try go_frame)
        refine wpAnyM_take (i := 7) (oi := ⟨some 21, _, _, _, _, _⟩) (v := (.bool true)) rfl (by kernel_rfl) (by kernel_rfl) (by kernel_rfl) (by kernel_rfl) (by decide) (fun _ _ _ h => h) (by assumption) (Or.inl ⟨by rfl, ?_⟩) ?_
        · intro W hSW
          (try dsimp only at hSW)
          go_simp
        (try go_frame)
        refine wpAnyM_take (i := 8) (oi := ⟨some 22, _, _, _, _, _⟩) (v := undef) rfl (by kernel_rfl) (by kernel_rfl) (by kernel_rfl) (by kernel_rfl) (by decide) (fun _ _ _ h => h) (by assumption) (Or.inr ⟨by rfl, rfl⟩) ?_
        (try go_frame)
        refine wpAnyM_take (i := 9) (oi := ⟨some 23, _, _, _, _, _⟩) (v := undef) rfl (by kernel_rfl) (by kernel_rfl) (by kernel_rfl) (by kernel_rfl) (by decide) (fun _ _ _ h => h) (by assumption) (Or.inr ⟨by rfl, rfl⟩) ?_
        (try go_frame)
        refine wpAnyM_take (i := 10) (oi := ⟨some 24, _, _, _, _, _⟩) (v := undef) rfl (by kernel_rfl) (by kernel_rfl) (by kernel_rfl) (by kernel_rfl) (by decide) (fun _ _ _ h => h) (by assumption) (Or.inr ⟨by rfl, rfl⟩) ?_
        (try go_frame)
        refine wpAnyM_take (i := 11) (oi := ⟨some 25, _, _, _, _, _⟩) (v := (.bool true)) rfl (by kernel_rfl) (by kernel_rfl) (by kernel_rfl) (by kernel_rfl) (by decide) (fun _ _ _ h => h) (by assumption) (Or.inl ⟨by rfl, ?_⟩) ?_
        · intro W hSW
          (try dsimp only at hSW)
          go_simp
        (try go_frame)
        refine wpAnyM_take (i := 12) (oi := ⟨some 26, _, _, _, _, _⟩) (v := (.bool true)) rfl (by kernel_rfl) (by kernel_rfl) (by kernel_rfl) (by kernel_rfl) (by decide) (fun _ _ _ h => h) (by assumption) (Or.inl ⟨by rfl, ?_⟩) ?_
        · intro W hSW
          (try dsimp only at hSW)
          go_simp
        (try go_frame)
        refine wpAnyM_take (i := 13) (oi := ⟨some 27, _, _, _, _, _⟩) (v := undef) rfl (by kernel_rfl) (by kernel_rfl) (by kernel_rfl) (by kernel_rfl) (by decide) (fun _ _ _ h => h) (by assumption) (Or.inr ⟨by rfl, rfl⟩) ?_
        (try go_frame)
        refine wpAnyM_take (i := 14) (oi := ⟨some 28, _, _, _, _, _⟩) (v := undef) rfl (by kernel_rfl) (by kernel_rfl) (by kernel_rfl) (by kernel_rfl) (by decide) (fun _ _ _ h => h) (by assumption) (Or.inr ⟨by rfl, rfl⟩) ?_
        (try go_frame)
        refine wpAnyM_take (i := 15) (oi := ⟨some 29, _, _, _, _, _⟩) (v := undef) rfl (by kernel_rfl) (by kernel_rfl) (by kernel_rfl) (by kernel_rfl) (by decide) (fun _ _ _ h => h) (by assumption) (Or.inr ⟨by rfl, rfl⟩) ?_
        (try go_frame)
        refine wpAnyM_take (i := 16) (oi := ⟨some 30, _, _, _, _, _⟩) (v := undef) rfl (by kernel_rfl) (by kernel_rfl) (by kernel_rfl) (by kernel_rfl) (by decide) (fun _ _ _ h => h) (by assumption) (Or.inr ⟨by rfl, rfl⟩) ?_
        (try go_frame)
        refine wpAnyM_take (i := 17) (oi := ⟨some 31, _, _, _, _, _⟩) (v := (.bool true)) rfl (by kernel_rfl) (by kernel_rfl) (by kernel_rfl) (by kernel_rfl) (by decide) (fun _ _ _ h => h) (by assumption) (Or.inl ⟨by rfl, ?_⟩) ?_
        · intro W hSW
          (try dsimp only at hSW)
          go_simp
        (try go_frame)
        refine wpAnyM_take (i := 18) (oi := ⟨some 32, _, _, _, _, _⟩) (v := (.bool true)) rfl (by kernel_rfl) (by kernel_rfl) (by kernel_rfl) (by kernel_rfl) (by decide) (fun _ _ _ h => h) (by assumption) (Or.inl ⟨by rfl, ?_⟩) ?_
        · intro W hSW
          (try dsimp only at hSW)
          go_simp
        (try go_frame)
        refine wpAnyM_take (i := 19) (oi := ⟨some 33, _, _, _, _, _⟩) (v := undef) rfl (by kernel_rfl) (by kernel_rfl) (by kernel_rfl) (by kernel_rfl) (by decide) (fun _ _ _ h => h) (by assumption) (Or.inr ⟨by rfl, rfl⟩) ?_
        (try go_frame)
        refine wpAnyM_take (i := 20) (oi := ⟨some 34, _, _, _, _, _⟩) (v := undef) rfl (by kernel_rfl) (by kernel_rfl) (by kernel_rfl) (by kernel_rfl) (by decide) (fun _ _ _ h => h) (by assumption) (Or.inr ⟨by rfl, rfl⟩) ?_
        (try go_frame)
        refine wpAnyM_take (i := 21) (oi := ⟨some 35, _, _, _, _, _⟩) (v := undef) rfl (by kernel_rfl) (by kernel_rfl) (by kernel_rfl) (by kernel_rfl) (by decide) (fun _ _ _ h => h) (by assumption) (Or.inr ⟨by rfl, rfl⟩) ?_
        (try go_frame)
        refine wpAnyM_take (i := 22) (oi := ⟨some 36, _, _, _, _, _⟩) (v := undef) rfl (by kernel_rfl) (by kernel_rfl) (by kernel_rfl) (by kernel_rfl) (by decide) (fun _ _ _ h => h) (by assumption) (Or.inr ⟨by rfl, rfl⟩) ?_
        (try go_frame)
        refine wpAnyM_take (i := 23) (oi := ⟨some 37, _, _, _, _, _⟩) (v := undef) rfl (by kernel_rfl) (by kernel_rfl) (by kernel_rfl) (by kernel_rfl) (by decide) (fun _ _ _ h => h) (by assumption) (Or.inr ⟨by rfl, rfl⟩) ?_
        (try go_frame)
        refine wpAnyM_take (i := 24) (oi := ⟨some 38, _, _, _, _, _⟩) (v := undef) rfl (by kernel_rfl) (by kernel_rfl) (by kernel_rfl) (by kernel_rfl) (by decide) (fun _ _ _ h => h) (by assumption) (Or.inr ⟨by rfl, rfl⟩) ?_
        (try go_frame)
        refine wpAnyM_take (i := 25) (oi := ⟨some 39, _, _, _, _, _⟩) (v := undef) rfl (by kernel_rfl) (by kernel_rfl) (by kernel_rfl) (by kernel_rfl) (by decide) (fun _ _ _ h => h) (by assumption) (Or.inr ⟨by rfl, rfl⟩) ?_
        (try go_frame)
        refine wpAnyM_take (i := 26) (oi := ⟨some 40, _, _, _, _, _⟩) (v := undef) rfl (by kernel_rfl) (by kernel_rfl) (by kernel_rfl) (by kernel_rfl) (by decide) (fun _ _ _ h => h) (by assumption) (Or.inr ⟨by rfl, rfl⟩) ?_
        (try go_frame)
        refine wpAnyM_take (i := 27) (oi := ⟨some 41, _, _, _, _, _⟩) (v := undef) rfl (by kernel_rfl) (by kernel_rfl) (by kernel_rfl) (by kernel_rfl) (by decide) (fun _ _ _ h => h) (by assumption) (Or.inr ⟨by rfl, rfl⟩) ?_
        (try go_frame)
        refine wpAnyM_take (i := 28) (oi := ⟨some 42, _, _, _, _, _⟩) (v := undef) rfl (by kernel_rfl) (by kernel_rfl) (by kernel_rfl) (by kernel_rfl) (by decide) (fun _ _ _ h => h) (by assumption) (Or.inr ⟨by rfl, rfl⟩) ?_
        (try go_frame)
        refine wpAnyM_take (i := 29) (oi := ⟨some 43, _, _, _, _, _⟩) (v := undef) rfl (by kernel_rfl) (by kernel_rfl) (by kernel_rfl) (by kernel_rfl) (by decide) (fun _ _ _ h => h) (by assumption) (Or.inr ⟨by rfl, rfl⟩) ?_
        (try go_frame)
        refine wpAnyM_take (i := 30) (oi := ⟨some 44, _, _, _, _, _⟩) (v := undef) rfl (by kernel_rfl) (by kernel_rfl) (by kernel_rfl) (by kernel_rfl) (by decide) (fun _ _ _ h => h) (by assumption) (Or.inr ⟨by rfl, rfl⟩) ?_
        (try go_frame)
        refine wpAnyM_take (i := 31) (oi := ⟨some 45, _, _, _, _, _⟩) (v := undef) rfl (by kernel_rfl) (by kernel_rfl) (by kernel_rfl) (by kernel_rfl) (by decide) (fun _ _ _ h => h) (by assumption) (Or.inr ⟨by rfl, rfl⟩) ?_
        (try go_frame)
        refine wpAnyM_take (i := 32) (oi := ⟨some 46, _, _, _, _, _⟩) (v := (.bool true)) rfl (by kernel_rfl) (by kernel_rfl) (by kernel_rfl) (by kernel_rfl) (by decide) (fun _ _ _ h => h) (by assumption) (Or.inl ⟨by rfl, ?_⟩) ?_
        · intro W hSW
          (try dsimp only at hSW)
          go_simp
        (try go_frame)
        refine wpAnyM_done (by kernel_rfl) (NoPanic.normal ?_)
        clear hHeld2
        go_wp2_with fail
        go_ret
        exact ⟨_, rfl, hF2, fun h => by cases h⟩
      · have h1' : shortB [p.err, p.dir] = true := by simpa using h1
        by_cases h2 : p.dir.toList = []
        · have h2' : p.dir.toList.isEmpty = true := by rw [h2]; rfl
          go_wp2_with fail
          refine wp_region_m 99 (fun W => (∀ j, W.cell? ⟨wo.heap.size, j, none⟩ = (#[.string p.err, .string p.dir, .slice Af p.files.length cf] : Array Value)[j]?)) (by kernel_rfl) ?_
          have hHeld : (∀ j, (wo.alloc (.cells #[.string p.err, .string p.dir, .slice Af p.files.length cf] 32)).drew.cell? ⟨wo.heap.size, j, none⟩ = (#[.string p.err, .string p.dir, .slice Af p.files.length cf] : Array Value)[j]?) := (Blk.new wo 32 #[.string p.err, .string p.dir, .slice Af p.files.length cf]).cell
          refine wpAnyM_take (i := 0) (oi := ⟨some 14, _, _, _, _, _⟩) (v := (.pointer (some ⟨wo.heap.size, 0, none⟩))) rfl (by kernel_rfl) (by kernel_rfl) (by kernel_rfl) (by kernel_rfl) (by decide) (fun _ _ _ h => h) (by assumption) (Or.inl ⟨by rfl, ?_⟩) ?_
          · intro W hSW
            (try dsimp only at hSW)
            go_simp
          (try go_frame)
          refine wpAnyM_take (i := 1) (oi := ⟨some 15, _, _, _, _, _⟩) (v := (.string p.err)) rfl (by kernel_rfl) (by kernel_rfl) (by kernel_rfl) (by kernel_rfl) (by decide) (fun _ _ _ h => h) (by assumption) (Or.inl ⟨by rfl, ?_⟩) ?_
          · intro W hSW
            (try dsimp only at hSW)
            go_simp
          (try go_frame)
          refine wpAnyM_take (i := 2) (oi := ⟨some 16, _, _, _, _, _⟩) (v := (.pointer (some ⟨wo.heap.size, 1, none⟩))) rfl (by kernel_rfl) (by kernel_rfl) (by kernel_rfl) (by kernel_rfl) (by decide) (fun _ _ _ h => h) (by assumption) (Or.inl ⟨by rfl, ?_⟩) ?_
          · intro W hSW
            (try dsimp only at hSW)
            go_simp
          (try go_frame)
          refine wpAnyM_take (i := 3) (oi := ⟨some 17, _, _, _, _, _⟩) (v := (.string p.dir)) rfl (by kernel_rfl) (by kernel_rfl) (by kernel_rfl) (by kernel_rfl) (by decide) (fun _ _ _ h => h) (by assumption) (Or.inl ⟨by rfl, ?_⟩) ?_
          · intro W hSW
            (try dsimp only at hSW)
            go_simp
          (try go_frame)
          refine wpAnyM_only (i := 4) (oi := ⟨some 18, _, _, _, _, _⟩) rfl (by kernel_rfl) (fun K hK => ?_)
          go_simp
          have hHeld2 : (∀ j, (((wo.alloc (.cells #[.string p.err, .string p.dir, .slice Af p.files.length cf] 32)).alloc (.cells #[.string p.err, .string p.dir] 9)).drew).cell? ⟨wo.heap.size, j, none⟩ = (#[.string p.err, .string p.dir, .slice Af p.files.length cf] : Array Value)[j]?) := keepCells (Below.heap_alloc (wo.alloc (.cells #[.string p.err, .string p.dir, .slice Af p.files.length cf] 32)) _ _ (by simp)) hHeld
          refine hK.out _ _ (.inr hHeld2) ?_
          clear hK K
          (try go_frame)
          clear hHeld
          refine wpAnyM_only (i := 5) (oi := ⟨some 19, _, _, _, _, _⟩) rfl (by kernel_rfl) (fun K hK => ?_)
          go_simp
          refine (S1.out).mono ?_
          rintro e w1 ⟨rfl, rfl⟩
          go_wp2_with fail
          refine hK.out _ _ (.inr hHeld2) ?_
          clear hK K
          (try go_frame)
          refine wpAnyM_take (i := 6) (oi := ⟨some 20, _, _, _, _, _⟩) (v := (.bool false)) rfl (by kernel_rfl) (by kernel_rfl) (by kernel_rfl) (by kernel_rfl) (by decide) (fun _ _ _ h => h) (by assumption) (Or.inl ⟨by rfl, ?_⟩) ?_
          · intro W hSW
            (try dsimp only at hSW)
            go_simp
          (try go_frame)
          refine wpAnyM_take (i := 7) (oi := ⟨some 21, _, _, _, _, _⟩) (v := (.bool false)) rfl (by kernel_rfl) (by kernel_rfl) (by kernel_rfl) (by kernel_rfl) (by decide) (fun _ _ _ h => h) (by assumption) (Or.inl ⟨by rfl, ?_⟩) ?_
          · intro W hSW
            (try dsimp only at hSW)
            go_simp
          (try go_frame)
          refine wpAnyM_take (i := 8) (oi := ⟨some 22, _, _, _, _, _⟩) (v := (.pointer (some ⟨wo.heap.size, 1, none⟩))) rfl (by kernel_rfl) (by kernel_rfl) (by kernel_rfl) (by kernel_rfl) (by decide) (fun _ _ _ h => h) (by assumption) (Or.inl ⟨by rfl, ?_⟩) ?_
          · intro W hSW
            (try dsimp only at hSW)
            go_simp
          (try go_frame)
          refine wpAnyM_take (i := 9) (oi := ⟨some 23, _, _, _, _, _⟩) (v := (.string p.dir)) rfl (by kernel_rfl) (by kernel_rfl) (by kernel_rfl) (by kernel_rfl) (by decide) (fun _ _ _ h => h) (by assumption) (Or.inl ⟨by rfl, ?_⟩) ?_
          · intro W hSW
            (try dsimp only at hSW)
            go_simp
          (try go_frame)
          refine wpAnyM_take (i := 10) (oi := ⟨some 24, _, _, _, _, _⟩) (v := (.bool true)) rfl (by kernel_rfl) (by kernel_rfl) (by kernel_rfl) (by kernel_rfl) (by decide) (fun _ _ _ h => h) (by assumption) (Or.inl ⟨by rfl, ?_⟩) ?_
          · intro W hSW
            (try dsimp only at hSW)
            go_simp
          (try go_frame)
          refine wpAnyM_take (i := 11) (oi := ⟨some 25, _, _, _, _, _⟩) (v := (.bool true)) rfl (by kernel_rfl) (by kernel_rfl) (by kernel_rfl) (by kernel_rfl) (by decide) (fun _ _ _ h => h) (by assumption) (Or.inl ⟨by rfl, ?_⟩) ?_
          · intro W hSW
            (try dsimp only at hSW)
            go_simp
          (try go_frame)
          refine wpAnyM_take (i := 12) (oi := ⟨some 26, _, _, _, _, _⟩) (v := (.bool true)) rfl (by kernel_rfl) (by kernel_rfl) (by kernel_rfl) (by kernel_rfl) (by decide) (fun _ _ _ h => h) (by assumption) (Or.inl ⟨by rfl, ?_⟩) ?_
          · intro W hSW
            (try dsimp only at hSW)
            go_simp
          (try go_frame)
          refine wpAnyM_take (i := 13) (oi := ⟨some 27, _, _, _, _, _⟩) (v := undef) rfl (by kernel_rfl) (by kernel_rfl) (by kernel_rfl) (by kernel_rfl) (by decide) (fun _ _ _ h => h) (by assumption) (Or.inr ⟨by rfl, rfl⟩) ?_
          (try go_frame)
          refine wpAnyM_take (i := 14) (oi := ⟨some 28, _, _, _, _, _⟩) (v := undef) rfl (by kernel_rfl) (by kernel_rfl) (by kernel_rfl) (by kernel_rfl) (by decide) (fun _ _ _ h => h) (by assumption) (Or.inr ⟨by rfl, rfl⟩) ?_
          (try go_frame)
          refine wpAnyM_take (i := 15) (oi := ⟨some 29, _, _, _, _, _⟩) (v := undef) rfl (by kernel_rfl) (by kernel_rfl) (by kernel_rfl) (by kernel_rfl) (by decide) (fun _ _ _ h => h) (by assumption) (Or.inr ⟨by rfl, rfl⟩) ?_
          (try go_frame)
          refine wpAnyM_take (i := 16) (oi := ⟨some 30, _, _, _, _, _⟩) (v := undef) rfl (by kernel_rfl) (by kernel_rfl) (by kernel_rfl) (by kernel_rfl) (by decide) (fun _ _ _ h => h) (by assumption) (Or.inr ⟨by rfl, rfl⟩) ?_
          (try go_frame)
          refine wpAnyM_take (i := 17) (oi := ⟨some 31, _, _, _, _, _⟩) (v := (.bool true)) rfl (by kernel_rfl) (by kernel_rfl) (by kernel_rfl) (by kernel_rfl) (by decide) (fun _ _ _ h => h) (by assumption) (Or.inl ⟨by rfl, ?_⟩) ?_
          · intro W hSW
            (try dsimp only at hSW)
            go_simp
          (try go_frame)
          refine wpAnyM_take (i := 18) (oi := ⟨some 32, _, _, _, _, _⟩) (v := (.bool true)) rfl (by kernel_rfl) (by kernel_rfl) (by kernel_rfl) (by kernel_rfl) (by decide) (fun _ _ _ h => h) (by assumption) (Or.inl ⟨by rfl, ?_⟩) ?_
          · intro W hSW
            (try dsimp only at hSW)
            go_simp
          (try go_frame)
          refine wpAnyM_take (i := 19) (oi := ⟨some 33, _, _, _, _, _⟩) (v := undef) rfl (by kernel_rfl) (by kernel_rfl) (by kernel_rfl) (by kernel_rfl) (by decide) (fun _ _ _ h => h) (by assumption) (Or.inr ⟨by rfl, rfl⟩) ?_
          (try go_frame)
          refine wpAnyM_take (i := 20) (oi := ⟨some 34, _, _, _, _, _⟩) (v := undef) rfl (by kernel_rfl) (by kernel_rfl) (by kernel_rfl) (by kernel_rfl) (by decide) (fun _ _ _ h => h) (by assumption) (Or.inr ⟨by rfl, rfl⟩) ?_
          (try go_frame)
          refine wpAnyM_take (i := 21) (oi := ⟨some 35, _, _, _, _, _⟩) (v := undef) rfl (by kernel_rfl) (by kernel_rfl) (by kernel_rfl) (by kernel_rfl) (by decide) (fun _ _ _ h => h) (by assumption) (Or.inr ⟨by rfl, rfl⟩) ?_
          (try go_frame)
          refine wpAnyM_take (i := 22) (oi := ⟨some 36, _, _, _, _, _⟩) (v := undef) rfl (by kernel_rfl) (by kernel_rfl) (by kernel_rfl) (by kernel_rfl) (by decide) (fun _ _ _ h => h) (by assumption) (Or.inr ⟨by rfl, rfl⟩) ?_
          (try go_frame)
          refine wpAnyM_take (i := 23) (oi := ⟨some 37, _, _, _, _, _⟩) (v := undef) rfl (by kernel_rfl) (by kernel_rfl) (by kernel_rfl) (by kernel_rfl) (by decide) (fun _ _ _ h => h) (by assumption) (Or.inr ⟨by rfl, rfl⟩) ?_
          (try go_frame)
          refine wpAnyM_take (i := 24) (oi := ⟨some 38, _, _, _, _, _⟩) (v := undef) rfl (by kernel_rfl) (by kernel_rfl) (by kernel_rfl) (by kernel_rfl) (by decide) (fun _ _ _ h => h) (by assumption) (Or.inr ⟨by rfl, rfl⟩) ?_
          (try go_frame)
          refine wpAnyM_take (i := 25) (oi := ⟨some 39, _, _, _, _, _⟩) (v := undef) rfl (by kernel_rfl) (by kernel_rfl) (by kernel_rfl) (by kernel_rfl) (by decide) (fun _ _ _ h => h) (by assumption) (Or.inr ⟨by rfl, rfl⟩) ?_
          (try go_frame)
          refine wpAnyM_take (i := 26) (oi := ⟨some 40, _, _, _, _, _⟩) (v := undef) rfl (by kernel_rfl) (by kernel_rfl) (by kernel_rfl) (by kernel_rfl) (by decide) (fun _ _ _ h => h) (by assumption) (Or.inr ⟨by rfl, rfl⟩) ?_
          (try go_frame)
          refine wpAnyM_take (i := 27) (oi := ⟨some 41, _, _, _, _, _⟩) (v := undef) rfl (by kernel_rfl) (by kernel_rfl) (by kernel_rfl) (by kernel_rfl) (by decide) (fun _ _ _ h => h) (by assumption) (Or.inr ⟨by rfl, rfl⟩) ?_
          (try go_frame)
          refine wpAnyM_take (i := 28) (oi := ⟨some 42, _, _, _, _, _⟩) (v := undef) rfl (by kernel_rfl) (by kernel_rfl) (by kernel_rfl) (by kernel_rfl) (by decide) (fun _ _ _ h => h) (by assumption) (Or.inr ⟨by rfl, rfl⟩) ?_
          (try go_frame)
          refine wpAnyM_take (i := 29) (oi := ⟨some 43, _, _, _, _, _⟩) (v := undef) rfl (by kernel_rfl) (by kernel_rfl) (by kernel_rfl) (by kernel_rfl) (by decide) (fun _ _ _ h => h) (by assumption) (Or.inr ⟨by rfl, rfl⟩) ?_
          (try go_frame)
          refine wpAnyM_take (i := 30) (oi := ⟨some 44, _, _, _, _, _⟩) (v := undef) rfl (by kernel_rfl) (by kernel_rfl) (by kernel_rfl) (by kernel_rfl) (by decide) (fun _ _ _ h => h) (by assumption) (Or.inr ⟨by rfl, rfl⟩) ?_
          (try go_frame)
          refine wpAnyM_take (i := 31) (oi := ⟨some 45, _, _, _, _, _⟩) (v := undef) rfl (by kernel_rfl) (by kernel_rfl) (by kernel_rfl) (by kernel_rfl) (by decide) (fun _ _ _ h => h) (by assumption) (Or.inr ⟨by rfl, rfl⟩) ?_
          (try go_frame)
          refine wpAnyM_take (i := 32) (oi := ⟨some 46, _, _, _, _, _⟩) (v := (.bool true)) rfl (by kernel_rfl) (by kernel_rfl) (by kernel_rfl) (by kernel_rfl) (by decide) (fun _ _ _ h => h) (by assumption) (Or.inl ⟨by rfl, ?_⟩) ?_
          · intro W hSW
            (try dsimp only at hSW)
            go_simp
          (try go_frame)
          refine wpAnyM_done (by kernel_rfl) (NoPanic.normal ?_)
          clear hHeld2
          go_wp2_with fail
          go_ret
          exact ⟨_, rfl, hF2, fun h => by cases h⟩
        · have h2' : p.dir.toList.isEmpty = false := by simpa using h2
          by_cases h3 : (10 : Int) < (p.files.length : Int)
          · skip
            go_wp2_with fail
            refine wp_region_m 99 (fun W => (∀ j, W.cell? ⟨wo.heap.size, j, none⟩ = (#[.string p.err, .string p.dir, .slice Af p.files.length cf] : Array Value)[j]?)) (by kernel_rfl) ?_
            have hHeld : (∀ j, (wo.alloc (.cells #[.string p.err, .string p.dir, .slice Af p.files.length cf] 32)).drew.cell? ⟨wo.heap.size, j, none⟩ = (#[.string p.err, .string p.dir, .slice Af p.files.length cf] : Array Value)[j]?) := (Blk.new wo 32 #[.string p.err, .string p.dir, .slice Af p.files.length cf]).cell
            refine wpAnyM_take (i := 0) (oi := ⟨some 14, _, _, _, _, _⟩) (v := (.pointer (some ⟨wo.heap.size, 0, none⟩))) rfl (by kernel_rfl) (by kernel_rfl) (by kernel_rfl) (by kernel_rfl) (by decide) (fun _ _ _ h => h) (by assumption) (Or.inl ⟨by rfl, ?_⟩) ?_
            · intro W hSW
              (try dsimp only at hSW)
              go_simp
            (try go_frame)
            refine wpAnyM_take (i := 1) (oi := ⟨some 15, _, _, _, _, _⟩) (v := (.string p.err)) rfl (by kernel_rfl) (by kernel_rfl) (by kernel_rfl) (by kernel_rfl) (by decide) (fun _ _ _ h => h) (by assumption) (Or.inl ⟨by rfl, ?_⟩) ?_
            · intro W hSW
              (try dsimp only at hSW)
              go_simp
            (try go_frame)
            refine wpAnyM_take (i := 2) (oi := ⟨some 16, _, _, _, _, _⟩) (v := (.pointer (some ⟨wo.heap.size, 1, none⟩))) rfl (by kernel_rfl) (by kernel_rfl) (by kernel_rfl) (by kernel_rfl) (by decide) (fun _ _ _ h => h) (by assumption) (Or.inl ⟨by rfl, ?_⟩) ?_
            · intro W hSW
              (try dsimp only at hSW)
              go_simp
            (try go_frame)
            refine wpAnyM_take (i := 3) (oi := ⟨some 17, _, _, _, _, _⟩) (v := (.string p.dir)) rfl (by kernel_rfl) (by kernel_rfl) (by kernel_rfl) (by kernel_rfl) (by decide) (fun _ _ _ h => h) (by assumption) (Or.inl ⟨by rfl, ?_⟩) ?_
            · intro W hSW
              (try dsimp only at hSW)
              go_simp
            (try go_frame)
            refine wpAnyM_only (i := 4) (oi := ⟨some 18, _, _, _, _, _⟩) rfl (by kernel_rfl) (fun K hK => ?_)
            go_simp
            have hHeld2 : (∀ j, (((wo.alloc (.cells #[.string p.err, .string p.dir, .slice Af p.files.length cf] 32)).alloc (.cells #[.string p.err, .string p.dir] 9)).drew).cell? ⟨wo.heap.size, j, none⟩ = (#[.string p.err, .string p.dir, .slice Af p.files.length cf] : Array Value)[j]?) := keepCells (Below.heap_alloc (wo.alloc (.cells #[.string p.err, .string p.dir, .slice Af p.files.length cf] 32)) _ _ (by simp)) hHeld
            refine hK.out _ _ (.inr hHeld2) ?_
            clear hK K
            (try go_frame)
            clear hHeld
            refine wpAnyM_only (i := 5) (oi := ⟨some 19, _, _, _, _, _⟩) rfl (by kernel_rfl) (fun K hK => ?_)
            go_simp
            refine (S1.out).mono ?_
            rintro e w1 ⟨rfl, rfl⟩
            go_wp2_with fail
            refine hK.out _ _ (.inr hHeld2) ?_
            clear hK K
            (try go_frame)
            refine wpAnyM_take (i := 6) (oi := ⟨some 20, _, _, _, _, _⟩) (v := (.bool false)) rfl (by kernel_rfl) (by kernel_rfl) (by kernel_rfl) (by kernel_rfl) (by decide) (fun _ _ _ h => h) (by assumption) (Or.inl ⟨by rfl, ?_⟩) ?_
            · intro W hSW
              (try dsimp only at hSW)
              go_simp
            (try go_frame)
            refine wpAnyM_take (i := 7) (oi := ⟨some 21, _, _, _, _, _⟩) (v := (.bool false)) rfl (by kernel_rfl) (by kernel_rfl) (by kernel_rfl) (by kernel_rfl) (by decide) (fun _ _ _ h => h) (by assumption) (Or.inl ⟨by rfl, ?_⟩) ?_
            · intro W hSW
              (try dsimp only at hSW)
              go_simp
            (try go_frame)
            refine wpAnyM_take (i := 8) (oi := ⟨some 22, _, _, _, _, _⟩) (v := (.pointer (some ⟨wo.heap.size, 1, none⟩))) rfl (by kernel_rfl) (by kernel_rfl) (by kernel_rfl) (by kernel_rfl) (by decide) (fun _ _ _ h => h) (by assumption) (Or.inl ⟨by rfl, ?_⟩) ?_
            · intro W hSW
              (try dsimp only at hSW)
              go_simp
            (try go_frame)
            refine wpAnyM_take (i := 9) (oi := ⟨some 23, _, _, _, _, _⟩) (v := (.string p.dir)) rfl (by kernel_rfl) (by kernel_rfl) (by kernel_rfl) (by kernel_rfl) (by decide) (fun _ _ _ h => h) (by assumption) (Or.inl ⟨by rfl, ?_⟩) ?_
            · intro W hSW
              (try dsimp only at hSW)
              go_simp
            (try go_frame)
            refine wpAnyM_take (i := 10) (oi := ⟨some 24, _, _, _, _, _⟩) (v := (.bool false)) rfl (by kernel_rfl) (by kernel_rfl) (by kernel_rfl) (by kernel_rfl) (by decide) (fun _ _ _ h => h) (by assumption) (Or.inl ⟨by rfl, ?_⟩) ?_
            · intro W hSW
              (try dsimp only at hSW)
              go_simp
            (try go_frame)
            refine wpAnyM_take (i := 11) (oi := ⟨some 25, _, _, _, _, _⟩) (v := (.bool false)) rfl (by kernel_rfl) (by kernel_rfl) (by kernel_rfl) (by kernel_rfl) (by decide) (fun _ _ _ h => h) (by assumption) (Or.inl ⟨by rfl, ?_⟩) ?_
            · intro W hSW
              (try dsimp only at hSW)
              go_simp
            (try go_frame)
            refine wpAnyM_take (i := 12) (oi := ⟨some 26, _, _, _, _, _⟩) (v := (.bool false)) rfl (by kernel_rfl) (by kernel_rfl) (by kernel_rfl) (by kernel_rfl) (by decide) (fun _ _ _ h => h) (by assumption) (Or.inl ⟨by rfl, ?_⟩) ?_
            · intro W hSW
              (try dsimp only at hSW)
              go_simp
            (try go_frame)
            refine wpAnyM_take (i := 13) (oi := ⟨some 27, _, _, _, _, _⟩) (v := (.pointer (some ⟨wo.heap.size, 2, none⟩))) rfl (by kernel_rfl) (by kernel_rfl) (by kernel_rfl) (by kernel_rfl) (by decide) (fun _ _ _ h => h) (by assumption) (Or.inl ⟨by rfl, ?_⟩) ?_
            · intro W hSW
              (try dsimp only at hSW)
              go_simp
            (try go_frame)
            refine wpAnyM_take (i := 14) (oi := ⟨some 28, _, _, _, _, _⟩) (v := (.slice Af p.files.length cf)) rfl (by kernel_rfl) (by kernel_rfl) (by kernel_rfl) (by kernel_rfl) (by decide) (fun _ _ _ h => h) (by assumption) (Or.inl ⟨by rfl, ?_⟩) ?_
            · intro W hSW
              (try dsimp only at hSW)
              go_simp
            (try go_frame)
            refine wpAnyM_take (i := 15) (oi := ⟨some 29, _, _, _, _, _⟩) (v := (.int .i64 p.files.length)) rfl (by kernel_rfl) (by kernel_rfl) (by kernel_rfl) (by kernel_rfl) (by decide) (fun _ _ _ h => h) (by assumption) (Or.inl ⟨by rfl, ?_⟩) ?_
            · intro W hSW
              (try dsimp only at hSW)
              go_simp
            (try go_frame)
            refine wpAnyM_take (i := 16) (oi := ⟨some 30, _, _, _, _, _⟩) (v := (.bool true)) rfl (by kernel_rfl) (by kernel_rfl) (by kernel_rfl) (by kernel_rfl) (by decide) (fun _ _ _ h => h) (by assumption) (Or.inl ⟨by rfl, ?_⟩) ?_
            · intro W hSW
              (try dsimp only at hSW)
              go_simp
            (try go_frame)
            refine wpAnyM_take (i := 17) (oi := ⟨some 31, _, _, _, _, _⟩) (v := (.bool true)) rfl (by kernel_rfl) (by kernel_rfl) (by kernel_rfl) (by kernel_rfl) (by decide) (fun _ _ _ h => h) (by assumption) (Or.inl ⟨by rfl, ?_⟩) ?_
            · intro W hSW
              (try dsimp only at hSW)
              go_simp
            (try go_frame)
            refine wpAnyM_take (i := 18) (oi := ⟨some 32, _, _, _, _, _⟩) (v := (.bool true)) rfl (by kernel_rfl) (by kernel_rfl) (by kernel_rfl) (by kernel_rfl) (by decide) (fun _ _ _ h => h) (by assumption) (Or.inl ⟨by rfl, ?_⟩) ?_
            · intro W hSW
              (try dsimp only at hSW)
              go_simp
            (try go_frame)
            refine wpAnyM_take (i := 19) (oi := ⟨some 33, _, _, _, _, _⟩) (v := undef) rfl (by kernel_rfl) (by kernel_rfl) (by kernel_rfl) (by kernel_rfl) (by decide) (fun _ _ _ h => h) (by assumption) (Or.inr ⟨by rfl, rfl⟩) ?_
            (try go_frame)
            refine wpAnyM_take (i := 20) (oi := ⟨some 34, _, _, _, _, _⟩) (v := undef) rfl (by kernel_rfl) (by kernel_rfl) (by kernel_rfl) (by kernel_rfl) (by decide) (fun _ _ _ h => h) (by assumption) (Or.inr ⟨by rfl, rfl⟩) ?_
            (try go_frame)
            refine wpAnyM_take (i := 21) (oi := ⟨some 35, _, _, _, _, _⟩) (v := undef) rfl (by kernel_rfl) (by kernel_rfl) (by kernel_rfl) (by kernel_rfl) (by decide) (fun _ _ _ h => h) (by assumption) (Or.inr ⟨by rfl, rfl⟩) ?_
            (try go_frame)
            refine wpAnyM_take (i := 22) (oi := ⟨some 36, _, _, _, _, _⟩) (v := undef) rfl (by kernel_rfl) (by kernel_rfl) (by kernel_rfl) (by kernel_rfl) (by decide) (fun _ _ _ h => h) (by assumption) (Or.inr ⟨by rfl, rfl⟩) ?_
            (try go_frame)
            refine wpAnyM_take (i := 23) (oi := ⟨some 37, _, _, _, _, _⟩) (v := undef) rfl (by kernel_rfl) (by kernel_rfl) (by kernel_rfl) (by kernel_rfl) (by decide) (fun _ _ _ h => h) (by assumption) (Or.inr ⟨by rfl, rfl⟩) ?_
            (try go_frame)
            refine wpAnyM_take (i := 24) (oi := ⟨some 38, _, _, _, _, _⟩) (v := undef) rfl (by kernel_rfl) (by kernel_rfl) (by kernel_rfl) (by kernel_rfl) (by decide) (fun _ _ _ h => h) (by assumption) (Or.inr ⟨by rfl, rfl⟩) ?_
            (try go_frame)
            refine wpAnyM_take (i := 25) (oi := ⟨some 39, _, _, _, _, _⟩) (v := undef) rfl (by kernel_rfl) (by kernel_rfl) (by kernel_rfl) (by kernel_rfl) (by decide) (fun _ _ _ h => h) (by assumption) (Or.inr ⟨by rfl, rfl⟩) ?_
            (try go_frame)
            refine wpAnyM_take (i := 26) (oi := ⟨some 40, _, _, _, _, _⟩) (v := undef) rfl (by kernel_rfl) (by kernel_rfl) (by kernel_rfl) (by kernel_rfl) (by decide) (fun _ _ _ h => h) (by assumption) (Or.inr ⟨by rfl, rfl⟩) ?_
            (try go_frame)
            refine wpAnyM_take (i := 27) (oi := ⟨some 41, _, _, _, _, _⟩) (v := undef) rfl (by kernel_rfl) (by kernel_rfl) (by kernel_rfl) (by kernel_rfl) (by decide) (fun _ _ _ h => h) (by assumption) (Or.inr ⟨by rfl, rfl⟩) ?_
            (try go_frame)
            refine wpAnyM_take (i := 28) (oi := ⟨some 42, _, _, _, _, _⟩) (v := undef) rfl (by kernel_rfl) (by kernel_rfl) (by kernel_rfl) (by kernel_rfl) (by decide) (fun _ _ _ h => h) (by assumption) (Or.inr ⟨by rfl, rfl⟩) ?_
            (try go_frame)
            refine wpAnyM_take (i := 29) (oi := ⟨some 43, _, _, _, _, _⟩) (v := undef) rfl (by kernel_rfl) (by kernel_rfl) (by kernel_rfl) (by kernel_rfl) (by decide) (fun _ _ _ h => h) (by assumption) (Or.inr ⟨by rfl, rfl⟩) ?_
            (try go_frame)
            refine wpAnyM_take (i := 30) (oi := ⟨some 44, _, _, _, _, _⟩) (v := undef) rfl (by kernel_rfl) (by kernel_rfl) (by kernel_rfl) (by kernel_rfl) (by decide) (fun _ _ _ h => h) (by assumption) (Or.inr ⟨by rfl, rfl⟩) ?_
            (try go_frame)
            refine wpAnyM_take (i := 31) (oi := ⟨some 45, _, _, _, _, _⟩) (v := undef) rfl (by kernel_rfl) (by kernel_rfl) (by kernel_rfl) (by kernel_rfl) (by decide) (fun _ _ _ h => h) (by assumption) (Or.inr ⟨by rfl, rfl⟩) ?_
            (try go_frame)
            refine wpAnyM_take (i := 32) (oi := ⟨some 46, _, _, _, _, _⟩) (v := (.bool true)) rfl (by kernel_rfl) (by kernel_rfl) (by kernel_rfl) (by kernel_rfl) (by decide) (fun _ _ _ h => h) (by assumption) (Or.inl ⟨by rfl, ?_⟩) ?_
            · intro W hSW
              (try dsimp only at hSW)
              go_simp
            (try go_frame)
            refine wpAnyM_done (by kernel_rfl) (NoPanic.normal ?_)
            clear hHeld2
            go_wp2_with fail
            go_ret
            exact ⟨_, rfl, hF2, fun h => by cases h⟩
          · by_cases hk0 : k = 0
            case' pos =>
              have hk1 : ¬ 0 < k := by omega
              have hk2 : ¬ (0 : Int) < (k : Int) := by omega
              have hk3 : k ≤ 0 := by omega
              clear hk0
              go_wp2_with fail
              refine wp_region_m 99 (fun W => (∀ j, W.cell? ⟨wo.heap.size, j, none⟩ = (#[.string p.err, .string p.dir, .slice Af p.files.length cf] : Array Value)[j]?)) (by kernel_rfl) ?_
              have hHeld : (∀ j, (wo.alloc (.cells #[.string p.err, .string p.dir, .slice Af p.files.length cf] 32)).drew.cell? ⟨wo.heap.size, j, none⟩ = (#[.string p.err, .string p.dir, .slice Af p.files.length cf] : Array Value)[j]?) := (Blk.new wo 32 #[.string p.err, .string p.dir, .slice Af p.files.length cf]).cell
              refine wpAnyM_take (i := 0) (oi := ⟨some 14, _, _, _, _, _⟩) (v := (.pointer (some ⟨wo.heap.size, 0, none⟩))) rfl (by kernel_rfl) (by kernel_rfl) (by kernel_rfl) (by kernel_rfl) (by decide) (fun _ _ _ h => h) (by assumption) (Or.inl ⟨by rfl, ?_⟩) ?_
              · intro W hSW
                (try dsimp only at hSW)
                go_simp
              (try go_frame)
              refine wpAnyM_take (i := 1) (oi := ⟨some 15, _, _, _, _, _⟩) (v := (.string p.err)) rfl (by kernel_rfl) (by kernel_rfl) (by kernel_rfl) (by kernel_rfl) (by decide) (fun _ _ _ h => h) (by assumption) (Or.inl ⟨by rfl, ?_⟩) ?_
              · intro W hSW
                (try dsimp only at hSW)
                go_simp
              (try go_frame)
              refine wpAnyM_take (i := 2) (oi := ⟨some 16, _, _, _, _, _⟩) (v := (.pointer (some ⟨wo.heap.size, 1, none⟩))) rfl (by kernel_rfl) (by kernel_rfl) (by kernel_rfl) (by kernel_rfl) (by decide) (fun _ _ _ h => h) (by assumption) (Or.inl ⟨by rfl, ?_⟩) ?_
              · intro W hSW
                (try dsimp only at hSW)
                go_simp
              (try go_frame)
              refine wpAnyM_take (i := 3) (oi := ⟨some 17, _, _, _, _, _⟩) (v := (.string p.dir)) rfl (by kernel_rfl) (by kernel_rfl) (by kernel_rfl) (by kernel_rfl) (by decide) (fun _ _ _ h => h) (by assumption) (Or.inl ⟨by rfl, ?_⟩) ?_
              · intro W hSW
                (try dsimp only at hSW)
                go_simp
              (try go_frame)
              refine wpAnyM_only (i := 4) (oi := ⟨some 18, _, _, _, _, _⟩) rfl (by kernel_rfl) (fun K hK => ?_)
              go_simp
              have hHeld2 : (∀ j, (((wo.alloc (.cells #[.string p.err, .string p.dir, .slice Af p.files.length cf] 32)).alloc (.cells #[.string p.err, .string p.dir] 9)).drew).cell? ⟨wo.heap.size, j, none⟩ = (#[.string p.err, .string p.dir, .slice Af p.files.length cf] : Array Value)[j]?) := keepCells (Below.heap_alloc (wo.alloc (.cells #[.string p.err, .string p.dir, .slice Af p.files.length cf] 32)) _ _ (by simp)) hHeld
              refine hK.out _ _ (.inr hHeld2) ?_
              clear hK K
              (try go_frame)
              clear hHeld
              refine wpAnyM_only (i := 5) (oi := ⟨some 19, _, _, _, _, _⟩) rfl (by kernel_rfl) (fun K hK => ?_)
              go_simp
              refine (S1.out).mono ?_
              rintro e w1 ⟨rfl, rfl⟩
              go_wp2_with fail
              refine hK.out _ _ (.inr hHeld2) ?_
              clear hK K
              (try go_frame)
              refine wpAnyM_take (i := 6) (oi := ⟨some 20, _, _, _, _, _⟩) (v := (.bool false)) rfl (by kernel_rfl) (by kernel_rfl) (by kernel_rfl) (by kernel_rfl) (by decide) (fun _ _ _ h => h) (by assumption) (Or.inl ⟨by rfl, ?_⟩) ?_
              · intro W hSW
                (try dsimp only at hSW)
                go_simp
              (try go_frame)
              refine wpAnyM_take (i := 7) (oi := ⟨some 21, _, _, _, _, _⟩) (v := (.bool false)) rfl (by kernel_rfl) (by kernel_rfl) (by kernel_rfl) (by kernel_rfl) (by decide) (fun _ _ _ h => h) (by assumption) (Or.inl ⟨by rfl, ?_⟩) ?_
              · intro W hSW
                (try dsimp only at hSW)
                go_simp
              (try go_frame)
              refine wpAnyM_take (i := 8) (oi := ⟨some 22, _, _, _, _, _⟩) (v := (.pointer (some ⟨wo.heap.size, 1, none⟩))) rfl (by kernel_rfl) (by kernel_rfl) (by kernel_rfl) (by kernel_rfl) (by decide) (fun _ _ _ h => h) (by assumption) (Or.inl ⟨by rfl, ?_⟩) ?_
              · intro W hSW
                (try dsimp only at hSW)
                go_simp
              (try go_frame)
              refine wpAnyM_take (i := 9) (oi := ⟨some 23, _, _, _, _, _⟩) (v := (.string p.dir)) rfl (by kernel_rfl) (by kernel_rfl) (by kernel_rfl) (by kernel_rfl) (by decide) (fun _ _ _ h => h) (by assumption) (Or.inl ⟨by rfl, ?_⟩) ?_
              · intro W hSW
                (try dsimp only at hSW)
                go_simp
              (try go_frame)
              refine wpAnyM_take (i := 10) (oi := ⟨some 24, _, _, _, _, _⟩) (v := (.bool false)) rfl (by kernel_rfl) (by kernel_rfl) (by kernel_rfl) (by kernel_rfl) (by decide) (fun _ _ _ h => h) (by assumption) (Or.inl ⟨by rfl, ?_⟩) ?_
              · intro W hSW
                (try dsimp only at hSW)
                go_simp
              (try go_frame)
              refine wpAnyM_take (i := 11) (oi := ⟨some 25, _, _, _, _, _⟩) (v := (.bool false)) rfl (by kernel_rfl) (by kernel_rfl) (by kernel_rfl) (by kernel_rfl) (by decide) (fun _ _ _ h => h) (by assumption) (Or.inl ⟨by rfl, ?_⟩) ?_
              · intro W hSW
                (try dsimp only at hSW)
                go_simp
              (try go_frame)
              refine wpAnyM_take (i := 12) (oi := ⟨some 26, _, _, _, _, _⟩) (v := (.bool false)) rfl (by kernel_rfl) (by kernel_rfl) (by kernel_rfl) (by kernel_rfl) (by decide) (fun _ _ _ h => h) (by assumption) (Or.inl ⟨by rfl, ?_⟩) ?_
              · intro W hSW
                (try dsimp only at hSW)
                go_simp
              (try go_frame)
              refine wpAnyM_take (i := 13) (oi := ⟨some 27, _, _, _, _, _⟩) (v := (.pointer (some ⟨wo.heap.size, 2, none⟩))) rfl (by kernel_rfl) (by kernel_rfl) (by kernel_rfl) (by kernel_rfl) (by decide) (fun _ _ _ h => h) (by assumption) (Or.inl ⟨by rfl, ?_⟩) ?_
              · intro W hSW
                (try dsimp only at hSW)
                go_simp
              (try go_frame)
              refine wpAnyM_take (i := 14) (oi := ⟨some 28, _, _, _, _, _⟩) (v := (.slice Af p.files.length cf)) rfl (by kernel_rfl) (by kernel_rfl) (by kernel_rfl) (by kernel_rfl) (by decide) (fun _ _ _ h => h) (by assumption) (Or.inl ⟨by rfl, ?_⟩) ?_
              · intro W hSW
                (try dsimp only at hSW)
                go_simp
              (try go_frame)
              refine wpAnyM_take (i := 15) (oi := ⟨some 29, _, _, _, _, _⟩) (v := (.int .i64 p.files.length)) rfl (by kernel_rfl) (by kernel_rfl) (by kernel_rfl) (by kernel_rfl) (by decide) (fun _ _ _ h => h) (by assumption) (Or.inl ⟨by rfl, ?_⟩) ?_
              · intro W hSW
                (try dsimp only at hSW)
                go_simp
              (try go_frame)
              refine wpAnyM_take (i := 16) (oi := ⟨some 30, _, _, _, _, _⟩) (v := (.bool false)) rfl (by kernel_rfl) (by kernel_rfl) (by kernel_rfl) (by kernel_rfl) (by decide) (fun _ _ _ h => h) (by assumption) (Or.inl ⟨by rfl, ?_⟩) ?_
              · intro W hSW
                (try dsimp only at hSW)
                go_simp
              (try go_frame)
              refine wpAnyM_take (i := 17) (oi := ⟨some 31, _, _, _, _, _⟩) (v := (.bool false)) rfl (by kernel_rfl) (by kernel_rfl) (by kernel_rfl) (by kernel_rfl) (by decide) (fun _ _ _ h => h) (by assumption) (Or.inl ⟨by rfl, ?_⟩) ?_
              · intro W hSW
                (try dsimp only at hSW)
                go_simp
              (try go_frame)
              refine wpAnyM_take (i := 18) (oi := ⟨some 32, _, _, _, _, _⟩) (v := (.bool false)) rfl (by kernel_rfl) (by kernel_rfl) (by kernel_rfl) (by kernel_rfl) (by decide) (fun _ _ _ h => h) (by assumption) (Or.inl ⟨by rfl, ?_⟩) ?_
              · intro W hSW
                (try dsimp only at hSW)
                go_simp
              (try go_frame)
              refine wpAnyM_take (i := 19) (oi := ⟨some 33, _, _, _, _, _⟩) (v := (.int .i64 k)) rfl (by kernel_rfl) (by kernel_rfl) (by kernel_rfl) (by kernel_rfl) (by decide) (fun _ _ _ h => h) (by assumption) (Or.inl ⟨by rfl, ?_⟩) ?_
              · intro W hSW
                (try dsimp only at hSW)
                go_simp
              (try go_frame)
              refine wpAnyM_take (i := 20) (oi := ⟨some 34, _, _, _, _, _⟩) (v := (.bool false)) rfl (by kernel_rfl) (by kernel_rfl) (by kernel_rfl) (by kernel_rfl) (by decide) (fun _ _ _ h => h) (by assumption) (Or.inl ⟨by rfl, ?_⟩) ?_
              · intro W hSW
                (try dsimp only at hSW)
                go_simp
              (try go_frame)
              refine wpAnyM_take (i := 21) (oi := ⟨some 35, _, _, _, _, _⟩) (v := (.bool false)) rfl (by kernel_rfl) (by kernel_rfl) (by kernel_rfl) (by kernel_rfl) (by decide) (fun _ _ _ h => h) (by assumption) (Or.inl ⟨by rfl, ?_⟩) ?_
              · intro W hSW
                (try dsimp only at hSW)
                go_simp
              (try go_frame)
              refine wpAnyM_take (i := 22) (oi := ⟨some 36, _, _, _, _, _⟩) (v := undef) rfl (by kernel_rfl) (by kernel_rfl) (by kernel_rfl) (by kernel_rfl) (by decide) (fun _ _ _ h => h) (by assumption) (Or.inr ⟨by rfl, rfl⟩) ?_
              (try go_frame)
              refine wpAnyM_take (i := 23) (oi := ⟨some 37, _, _, _, _, _⟩) (v := undef) rfl (by kernel_rfl) (by kernel_rfl) (by kernel_rfl) (by kernel_rfl) (by decide) (fun _ _ _ h => h) (by assumption) (Or.inr ⟨by rfl, rfl⟩) ?_
              (try go_frame)
              refine wpAnyM_take (i := 24) (oi := ⟨some 38, _, _, _, _, _⟩) (v := undef) rfl (by kernel_rfl) (by kernel_rfl) (by kernel_rfl) (by kernel_rfl) (by decide) (fun _ _ _ h => h) (by assumption) (Or.inr ⟨by rfl, rfl⟩) ?_
              (try go_frame)
              refine wpAnyM_take (i := 25) (oi := ⟨some 39, _, _, _, _, _⟩) (v := undef) rfl (by kernel_rfl) (by kernel_rfl) (by kernel_rfl) (by kernel_rfl) (by decide) (fun _ _ _ h => h) (by assumption) (Or.inr ⟨by rfl, rfl⟩) ?_
              (try go_frame)
              refine wpAnyM_take (i := 26) (oi := ⟨some 40, _, _, _, _, _⟩) (v := undef) rfl (by kernel_rfl) (by kernel_rfl) (by kernel_rfl) (by kernel_rfl) (by decide) (fun _ _ _ h => h) (by assumption) (Or.inr ⟨by rfl, rfl⟩) ?_
              (try go_frame)
              refine wpAnyM_take (i := 27) (oi := ⟨some 41, _, _, _, _, _⟩) (v := undef) rfl (by kernel_rfl) (by kernel_rfl) (by kernel_rfl) (by kernel_rfl) (by decide) (fun _ _ _ h => h) (by assumption) (Or.inr ⟨by rfl, rfl⟩) ?_
              (try go_frame)
              refine wpAnyM_take (i := 28) (oi := ⟨some 42, _, _, _, _, _⟩) (v := undef) rfl (by kernel_rfl) (by kernel_rfl) (by kernel_rfl) (by kernel_rfl) (by decide) (fun _ _ _ h => h) (by assumption) (Or.inr ⟨by rfl, rfl⟩) ?_
              (try go_frame)
              refine wpAnyM_take (i := 29) (oi := ⟨some 43, _, _, _, _, _⟩) (v := undef) rfl (by kernel_rfl) (by kernel_rfl) (by kernel_rfl) (by kernel_rfl) (by decide) (fun _ _ _ h => h) (by assumption) (Or.inr ⟨by rfl, rfl⟩) ?_
              (try go_frame)
              refine wpAnyM_take (i := 30) (oi := ⟨some 44, _, _, _, _, _⟩) (v := undef) rfl (by kernel_rfl) (by kernel_rfl) (by kernel_rfl) (by kernel_rfl) (by decide) (fun _ _ _ h => h) (by assumption) (Or.inr ⟨by rfl, rfl⟩) ?_
              (try go_frame)
              refine wpAnyM_take (i := 31) (oi := ⟨some 45, _, _, _, _, _⟩) (v := (.bool false)) rfl (by kernel_rfl) (by kernel_rfl) (by kernel_rfl) (by kernel_rfl) (by decide) (fun _ _ _ h => h) (by assumption) (Or.inl ⟨by rfl, ?_⟩) ?_
              · intro W hSW
                (try dsimp only at hSW)
                go_simp
              (try go_frame)
              refine wpAnyM_take (i := 32) (oi := ⟨some 46, _, _, _, _, _⟩) (v := (.bool false)) rfl (by kernel_rfl) (by kernel_rfl) (by kernel_rfl) (by kernel_rfl) (by decide) (fun _ _ _ h => h) (by assumption) (Or.inl ⟨by rfl, ?_⟩) ?_
              · intro W hSW
                (try dsimp only at hSW)
                go_simp
              (try go_frame)
              refine wpAnyM_done (by kernel_rfl) (NoPanic.normal ?_)
              have hcmp : Hid (∀ x, 0 < k → ps[k - 1]? = some x → Lib.compareBytes x.dir.data.toList p.dir.data.toList = -1) := Lib.hid fun x h => absurd h hk1
              clear hHeld2 hk1 hk2 hk3
              go_wp2_with fail
            case' neg =>
              have hkp : (0 : Int) < (k : Int) := by omega
              have hkn : 0 < k := by omega
              obtain ⟨q, hq, hq1, hq2⟩ := HPV.out hkn
              have b3 : IntKind.i64.wrap ((k : Int) - 1) = ((k - 1 : Nat) : Int) := by
                rw [IntWalk.i64_in _ (by omega)]
                omega
              have b4 : (0 : Int) ≤ ((k - 1 : Nat) : Int) := by omega
              have b5 : ((k - 1 : Nat) : Int) < (ps.length : Int) := by omega
              have HQ2 := Lib.hid hq2
              clear hq2
              by_cases hle : (Op.bytesLess p.dir.toList q.toList || p.dir.toList == q.toList) = true
              · skip
                go_wp2_with fail
                refine wp_region_m 99 (fun W => (∀ j, W.cell? ⟨wo.heap.size, j, none⟩ = (#[.string p.err, .string p.dir, .slice Af p.files.length cf] : Array Value)[j]?) ∧ W.cell? ⟨gp, op + (k - 1) * 3 + 1, none⟩ = some (.string q)) (by kernel_rfl) ?_
                have hHeld : (∀ j, (wo.alloc (.cells #[.string p.err, .string p.dir, .slice Af p.files.length cf] 32)).drew.cell? ⟨wo.heap.size, j, none⟩ = (#[.string p.err, .string p.dir, .slice Af p.files.length cf] : Array Value)[j]?) ∧ (wo.alloc (.cells #[.string p.err, .string p.dir, .slice Af p.files.length cf] 32)).drew.cell? ⟨gp, op + (k - 1) * 3 + 1, none⟩ = some (.string q) := ⟨(Blk.new wo 32 #[.string p.err, .string p.dir, .slice Af p.files.length cf]).cell, (World.cell?_alloc_lt wo _ _ hgpl).trans hq⟩
                refine wpAnyM_take (i := 0) (oi := ⟨some 14, _, _, _, _, _⟩) (v := (.pointer (some ⟨wo.heap.size, 0, none⟩))) rfl (by kernel_rfl) (by kernel_rfl) (by kernel_rfl) (by kernel_rfl) (by decide) (fun _ _ _ h => h) (by assumption) (Or.inl ⟨by rfl, ?_⟩) ?_
                · intro W hSW
                  (try dsimp only at hSW)
                  go_simp
                (try go_frame)
                refine wpAnyM_take (i := 1) (oi := ⟨some 15, _, _, _, _, _⟩) (v := (.string p.err)) rfl (by kernel_rfl) (by kernel_rfl) (by kernel_rfl) (by kernel_rfl) (by decide) (fun _ _ _ h => h) (by assumption) (Or.inl ⟨by rfl, ?_⟩) ?_
                · intro W hSW
                  (try dsimp only at hSW)
                  go_simp
                (try go_frame)
                refine wpAnyM_take (i := 2) (oi := ⟨some 16, _, _, _, _, _⟩) (v := (.pointer (some ⟨wo.heap.size, 1, none⟩))) rfl (by kernel_rfl) (by kernel_rfl) (by kernel_rfl) (by kernel_rfl) (by decide) (fun _ _ _ h => h) (by assumption) (Or.inl ⟨by rfl, ?_⟩) ?_
                · intro W hSW
                  (try dsimp only at hSW)
                  go_simp
                (try go_frame)
                refine wpAnyM_take (i := 3) (oi := ⟨some 17, _, _, _, _, _⟩) (v := (.string p.dir)) rfl (by kernel_rfl) (by kernel_rfl) (by kernel_rfl) (by kernel_rfl) (by decide) (fun _ _ _ h => h) (by assumption) (Or.inl ⟨by rfl, ?_⟩) ?_
                · intro W hSW
                  (try dsimp only at hSW)
                  go_simp
                (try go_frame)
                refine wpAnyM_only (i := 4) (oi := ⟨some 18, _, _, _, _, _⟩) rfl (by kernel_rfl) (fun K hK => ?_)
                go_simp
                have hHeld2 : (∀ j, (((wo.alloc (.cells #[.string p.err, .string p.dir, .slice Af p.files.length cf] 32)).alloc (.cells #[.string p.err, .string p.dir] 9)).drew).cell? ⟨wo.heap.size, j, none⟩ = (#[.string p.err, .string p.dir, .slice Af p.files.length cf] : Array Value)[j]?) ∧ (((wo.alloc (.cells #[.string p.err, .string p.dir, .slice Af p.files.length cf] 32)).alloc (.cells #[.string p.err, .string p.dir] 9)).drew).cell? ⟨gp, op + (k - 1) * 3 + 1, none⟩ = some (.string q) := ⟨keepCells (Below.heap_alloc (wo.alloc (.cells #[.string p.err, .string p.dir, .slice Af p.files.length cf] 32)) _ _ (by simp)) hHeld.1, (World.cell?_alloc_lt (wo.alloc (.cells #[.string p.err, .string p.dir, .slice Af p.files.length cf] 32)) _ _ (by simp; omega)).trans hHeld.2⟩
                refine hK.out _ _ (.inr hHeld2) ?_
                clear hK K
                (try go_frame)
                clear hHeld
                refine wpAnyM_only (i := 5) (oi := ⟨some 19, _, _, _, _, _⟩) rfl (by kernel_rfl) (fun K hK => ?_)
                go_simp
                refine (S1.out).mono ?_
                rintro e w1 ⟨rfl, rfl⟩
                go_wp2_with fail
                refine hK.out _ _ (.inr hHeld2) ?_
                clear hK K
                (try go_frame)
                refine wpAnyM_take (i := 6) (oi := ⟨some 20, _, _, _, _, _⟩) (v := (.bool false)) rfl (by kernel_rfl) (by kernel_rfl) (by kernel_rfl) (by kernel_rfl) (by decide) (fun _ _ _ h => h) (by assumption) (Or.inl ⟨by rfl, ?_⟩) ?_
                · intro W hSW
                  (try dsimp only at hSW)
                  go_simp
                (try go_frame)
                refine wpAnyM_take (i := 7) (oi := ⟨some 21, _, _, _, _, _⟩) (v := (.bool false)) rfl (by kernel_rfl) (by kernel_rfl) (by kernel_rfl) (by kernel_rfl) (by decide) (fun _ _ _ h => h) (by assumption) (Or.inl ⟨by rfl, ?_⟩) ?_
                · intro W hSW
                  (try dsimp only at hSW)
                  go_simp
                (try go_frame)
                refine wpAnyM_take (i := 8) (oi := ⟨some 22, _, _, _, _, _⟩) (v := (.pointer (some ⟨wo.heap.size, 1, none⟩))) rfl (by kernel_rfl) (by kernel_rfl) (by kernel_rfl) (by kernel_rfl) (by decide) (fun _ _ _ h => h) (by assumption) (Or.inl ⟨by rfl, ?_⟩) ?_
                · intro W hSW
                  (try dsimp only at hSW)
                  go_simp
                (try go_frame)
                refine wpAnyM_take (i := 9) (oi := ⟨some 23, _, _, _, _, _⟩) (v := (.string p.dir)) rfl (by kernel_rfl) (by kernel_rfl) (by kernel_rfl) (by kernel_rfl) (by decide) (fun _ _ _ h => h) (by assumption) (Or.inl ⟨by rfl, ?_⟩) ?_
                · intro W hSW
                  (try dsimp only at hSW)
                  go_simp
                (try go_frame)
                refine wpAnyM_take (i := 10) (oi := ⟨some 24, _, _, _, _, _⟩) (v := (.bool false)) rfl (by kernel_rfl) (by kernel_rfl) (by kernel_rfl) (by kernel_rfl) (by decide) (fun _ _ _ h => h) (by assumption) (Or.inl ⟨by rfl, ?_⟩) ?_
                · intro W hSW
                  (try dsimp only at hSW)
                  go_simp
                (try go_frame)
                refine wpAnyM_take (i := 11) (oi := ⟨some 25, _, _, _, _, _⟩) (v := (.bool false)) rfl (by kernel_rfl) (by kernel_rfl) (by kernel_rfl) (by kernel_rfl) (by decide) (fun _ _ _ h => h) (by assumption) (Or.inl ⟨by rfl, ?_⟩) ?_
                · intro W hSW
                  (try dsimp only at hSW)
                  go_simp
                (try go_frame)
                refine wpAnyM_take (i := 12) (oi := ⟨some 26, _, _, _, _, _⟩) (v := (.bool false)) rfl (by kernel_rfl) (by kernel_rfl) (by kernel_rfl) (by kernel_rfl) (by decide) (fun _ _ _ h => h) (by assumption) (Or.inl ⟨by rfl, ?_⟩) ?_
                · intro W hSW
                  (try dsimp only at hSW)
                  go_simp
                (try go_frame)
                refine wpAnyM_take (i := 13) (oi := ⟨some 27, _, _, _, _, _⟩) (v := (.pointer (some ⟨wo.heap.size, 2, none⟩))) rfl (by kernel_rfl) (by kernel_rfl) (by kernel_rfl) (by kernel_rfl) (by decide) (fun _ _ _ h => h) (by assumption) (Or.inl ⟨by rfl, ?_⟩) ?_
                · intro W hSW
                  (try dsimp only at hSW)
                  go_simp
                (try go_frame)
                refine wpAnyM_take (i := 14) (oi := ⟨some 28, _, _, _, _, _⟩) (v := (.slice Af p.files.length cf)) rfl (by kernel_rfl) (by kernel_rfl) (by kernel_rfl) (by kernel_rfl) (by decide) (fun _ _ _ h => h) (by assumption) (Or.inl ⟨by rfl, ?_⟩) ?_
                · intro W hSW
                  (try dsimp only at hSW)
                  go_simp
                (try go_frame)
                refine wpAnyM_take (i := 15) (oi := ⟨some 29, _, _, _, _, _⟩) (v := (.int .i64 p.files.length)) rfl (by kernel_rfl) (by kernel_rfl) (by kernel_rfl) (by kernel_rfl) (by decide) (fun _ _ _ h => h) (by assumption) (Or.inl ⟨by rfl, ?_⟩) ?_
                · intro W hSW
                  (try dsimp only at hSW)
                  go_simp
                (try go_frame)
                refine wpAnyM_take (i := 16) (oi := ⟨some 30, _, _, _, _, _⟩) (v := (.bool false)) rfl (by kernel_rfl) (by kernel_rfl) (by kernel_rfl) (by kernel_rfl) (by decide) (fun _ _ _ h => h) (by assumption) (Or.inl ⟨by rfl, ?_⟩) ?_
                · intro W hSW
                  (try dsimp only at hSW)
                  go_simp
                (try go_frame)
                refine wpAnyM_take (i := 17) (oi := ⟨some 31, _, _, _, _, _⟩) (v := (.bool false)) rfl (by kernel_rfl) (by kernel_rfl) (by kernel_rfl) (by kernel_rfl) (by decide) (fun _ _ _ h => h) (by assumption) (Or.inl ⟨by rfl, ?_⟩) ?_
                · intro W hSW
                  (try dsimp only at hSW)
                  go_simp
                (try go_frame)
                refine wpAnyM_take (i := 18) (oi := ⟨some 32, _, _, _, _, _⟩) (v := (.bool false)) rfl (by kernel_rfl) (by kernel_rfl) (by kernel_rfl) (by kernel_rfl) (by decide) (fun _ _ _ h => h) (by assumption) (Or.inl ⟨by rfl, ?_⟩) ?_
                · intro W hSW
                  (try dsimp only at hSW)
                  go_simp
                (try go_frame)
                refine wpAnyM_take (i := 19) (oi := ⟨some 33, _, _, _, _, _⟩) (v := (.int .i64 k)) rfl (by kernel_rfl) (by kernel_rfl) (by kernel_rfl) (by kernel_rfl) (by decide) (fun _ _ _ h => h) (by assumption) (Or.inl ⟨by rfl, ?_⟩) ?_
                · intro W hSW
                  (try dsimp only at hSW)
                  go_simp
                (try go_frame)
                refine wpAnyM_take (i := 20) (oi := ⟨some 34, _, _, _, _, _⟩) (v := (.bool true)) rfl (by kernel_rfl) (by kernel_rfl) (by kernel_rfl) (by kernel_rfl) (by decide) (fun _ _ _ h => h) (by assumption) (Or.inl ⟨by rfl, ?_⟩) ?_
                · intro W hSW
                  (try dsimp only at hSW)
                  go_simp
                (try go_frame)
                refine wpAnyM_take (i := 21) (oi := ⟨some 35, _, _, _, _, _⟩) (v := (.bool true)) rfl (by kernel_rfl) (by kernel_rfl) (by kernel_rfl) (by kernel_rfl) (by decide) (fun _ _ _ h => h) (by assumption) (Or.inl ⟨by rfl, ?_⟩) ?_
                · intro W hSW
                  (try dsimp only at hSW)
                  go_simp
                (try go_frame)
                refine wpAnyM_take (i := 22) (oi := ⟨some 36, _, _, _, _, _⟩) (v := (.pointer (some ⟨wo.heap.size, 1, none⟩))) rfl (by kernel_rfl) (by kernel_rfl) (by kernel_rfl) (by kernel_rfl) (by decide) (fun _ _ _ h => h) (by assumption) (Or.inl ⟨by rfl, ?_⟩) ?_
                · intro W hSW
                  (try dsimp only at hSW)
                  go_simp
                (try go_frame)
                refine wpAnyM_take (i := 23) (oi := ⟨some 37, _, _, _, _, _⟩) (v := (.string p.dir)) rfl (by kernel_rfl) (by kernel_rfl) (by kernel_rfl) (by kernel_rfl) (by decide) (fun _ _ _ h => h) (by assumption) (Or.inl ⟨by rfl, ?_⟩) ?_
                · intro W hSW
                  (try dsimp only at hSW)
                  go_simp
                (try go_frame)
                refine wpAnyM_take (i := 24) (oi := ⟨some 38, _, _, _, _, _⟩) (v := (.slice (some ⟨gp, op, none⟩) ps.length c)) rfl (by kernel_rfl) (by kernel_rfl) (by kernel_rfl) (by kernel_rfl) (by decide) (fun _ _ _ h => h) (by assumption) (Or.inl ⟨by rfl, ?_⟩) ?_
                · intro W hSW
                  (try dsimp only at hSW)
                  go_simp
                (try go_frame)
                refine wpAnyM_take (i := 25) (oi := ⟨some 39, _, _, _, _, _⟩) (v := (.int .i64 k)) rfl (by kernel_rfl) (by kernel_rfl) (by kernel_rfl) (by kernel_rfl) (by decide) (fun _ _ _ h => h) (by assumption) (Or.inl ⟨by rfl, ?_⟩) ?_
                · intro W hSW
                  (try dsimp only at hSW)
                  go_simp
                (try go_frame)
                refine wpAnyM_take (i := 26) (oi := ⟨some 40, _, _, _, _, _⟩) (v := (.int .i64 ((k - 1 : Nat) : Int))) rfl (by kernel_rfl) (by kernel_rfl) (by kernel_rfl) (by kernel_rfl) (by decide) (fun _ _ _ h => h) (by assumption) (Or.inl ⟨by rfl, ?_⟩) ?_
                · intro W hSW
                  (try dsimp only at hSW)
                  go_simp
                (try go_frame)
                refine wpAnyM_take (i := 27) (oi := ⟨some 41, _, _, _, _, _⟩) (v := (.pointer (some ⟨gp, op + (k - 1) * 3, none⟩))) rfl (by kernel_rfl) (by kernel_rfl) (by kernel_rfl) (by kernel_rfl) (by decide) (fun _ _ _ h => h) (by assumption) (Or.inl ⟨by rfl, ?_⟩) ?_
                · intro W hSW
                  (try dsimp only at hSW)
                  go_simp
                (try go_frame)
                refine wpAnyM_take (i := 28) (oi := ⟨some 42, _, _, _, _, _⟩) (v := (.pointer (some ⟨gp, op + (k - 1) * 3 + 1, none⟩))) rfl (by kernel_rfl) (by kernel_rfl) (by kernel_rfl) (by kernel_rfl) (by decide) (fun _ _ _ h => h) (by assumption) (Or.inl ⟨by rfl, ?_⟩) ?_
                · intro W hSW
                  (try dsimp only at hSW)
                  go_simp
                (try go_frame)
                refine wpAnyM_take (i := 29) (oi := ⟨some 43, _, _, _, _, _⟩) (v := (.string q)) rfl (by kernel_rfl) (by kernel_rfl) (by kernel_rfl) (by kernel_rfl) (by decide) (fun _ _ _ h => h) (by assumption) (Or.inl ⟨by rfl, ?_⟩) ?_
                · intro W hSW
                  (try dsimp only at hSW)
                  go_simp
                (try go_frame)
                refine wpAnyM_take (i := 30) (oi := ⟨some 44, _, _, _, _, _⟩) (v := (.bool true)) rfl (by kernel_rfl) (by kernel_rfl) (by kernel_rfl) (by kernel_rfl) (by decide) (fun _ _ _ h => h) (by assumption) (Or.inl ⟨by rfl, ?_⟩) ?_
                · intro W hSW
                  (try dsimp only at hSW)
                  go_simp
                (try go_frame)
                refine wpAnyM_take (i := 31) (oi := ⟨some 45, _, _, _, _, _⟩) (v := (.bool true)) rfl (by kernel_rfl) (by kernel_rfl) (by kernel_rfl) (by kernel_rfl) (by decide) (fun _ _ _ h => h) (by assumption) (Or.inl ⟨by rfl, ?_⟩) ?_
                · intro W hSW
                  (try dsimp only at hSW)
                  go_simp
                (try go_frame)
                refine wpAnyM_take (i := 32) (oi := ⟨some 46, _, _, _, _, _⟩) (v := (.bool true)) rfl (by kernel_rfl) (by kernel_rfl) (by kernel_rfl) (by kernel_rfl) (by decide) (fun _ _ _ h => h) (by assumption) (Or.inl ⟨by rfl, ?_⟩) ?_
                · intro W hSW
                  (try dsimp only at hSW)
                  go_simp
                (try go_frame)
                refine wpAnyM_done (by kernel_rfl) (NoPanic.normal ?_)
                clear hHeld2 b3 b4 b5 hle
                go_wp2_with fail
                go_ret
                exact ⟨_, rfl, hF2, fun h => by cases h⟩
              have hno : Op.bytesLess p.dir.toList q.toList = false ∧ (p.dir.toList == q.toList) = false := by simpa using hle
              have hno1 := hno.1
              have hno2 := hno.2
              clear hle
              go_wp2_with fail
              refine wp_region_m 99 (fun W => (∀ j, W.cell? ⟨wo.heap.size, j, none⟩ = (#[.string p.err, .string p.dir, .slice Af p.files.length cf] : Array Value)[j]?) ∧ W.cell? ⟨gp, op + (k - 1) * 3 + 1, none⟩ = some (.string q)) (by kernel_rfl) ?_
              have hHeld : (∀ j, (wo.alloc (.cells #[.string p.err, .string p.dir, .slice Af p.files.length cf] 32)).drew.cell? ⟨wo.heap.size, j, none⟩ = (#[.string p.err, .string p.dir, .slice Af p.files.length cf] : Array Value)[j]?) ∧ (wo.alloc (.cells #[.string p.err, .string p.dir, .slice Af p.files.length cf] 32)).drew.cell? ⟨gp, op + (k - 1) * 3 + 1, none⟩ = some (.string q) := ⟨(Blk.new wo 32 #[.string p.err, .string p.dir, .slice Af p.files.length cf]).cell, (World.cell?_alloc_lt wo _ _ hgpl).trans hq⟩
              refine wpAnyM_take (i := 0) (oi := ⟨some 14, _, _, _, _, _⟩) (v := (.pointer (some ⟨wo.heap.size, 0, none⟩))) rfl (by kernel_rfl) (by kernel_rfl) (by kernel_rfl) (by kernel_rfl) (by decide) (fun _ _ _ h => h) (by assumption) (Or.inl ⟨by rfl, ?_⟩) ?_
              · intro W hSW
                (try dsimp only at hSW)
                go_simp
              (try go_frame)
              refine wpAnyM_take (i := 1) (oi := ⟨some 15, _, _, _, _, _⟩) (v := (.string p.err)) rfl (by kernel_rfl) (by kernel_rfl) (by kernel_rfl) (by kernel_rfl) (by decide) (fun _ _ _ h => h) (by assumption) (Or.inl ⟨by rfl, ?_⟩) ?_
              · intro W hSW
                (try dsimp only at hSW)
                go_simp
              (try go_frame)
              refine wpAnyM_take (i := 2) (oi := ⟨some 16, _, _, _, _, _⟩) (v := (.pointer (some ⟨wo.heap.size, 1, none⟩))) rfl (by kernel_rfl) (by kernel_rfl) (by kernel_rfl) (by kernel_rfl) (by decide) (fun _ _ _ h => h) (by assumption) (Or.inl ⟨by rfl, ?_⟩) ?_
              · intro W hSW
                (try dsimp only at hSW)
                go_simp
              (try go_frame)
              refine wpAnyM_take (i := 3) (oi := ⟨some 17, _, _, _, _, _⟩) (v := (.string p.dir)) rfl (by kernel_rfl) (by kernel_rfl) (by kernel_rfl) (by kernel_rfl) (by decide) (fun _ _ _ h => h) (by assumption) (Or.inl ⟨by rfl, ?_⟩) ?_
              · intro W hSW
                (try dsimp only at hSW)
                go_simp
              (try go_frame)
              refine wpAnyM_only (i := 4) (oi := ⟨some 18, _, _, _, _, _⟩) rfl (by kernel_rfl) (fun K hK => ?_)
              go_simp
              have hHeld2 : (∀ j, (((wo.alloc (.cells #[.string p.err, .string p.dir, .slice Af p.files.length cf] 32)).alloc (.cells #[.string p.err, .string p.dir] 9)).drew).cell? ⟨wo.heap.size, j, none⟩ = (#[.string p.err, .string p.dir, .slice Af p.files.length cf] : Array Value)[j]?) ∧ (((wo.alloc (.cells #[.string p.err, .string p.dir, .slice Af p.files.length cf] 32)).alloc (.cells #[.string p.err, .string p.dir] 9)).drew).cell? ⟨gp, op + (k - 1) * 3 + 1, none⟩ = some (.string q) := ⟨keepCells (Below.heap_alloc (wo.alloc (.cells #[.string p.err, .string p.dir, .slice Af p.files.length cf] 32)) _ _ (by simp)) hHeld.1, (World.cell?_alloc_lt (wo.alloc (.cells #[.string p.err, .string p.dir, .slice Af p.files.length cf] 32)) _ _ (by simp; omega)).trans hHeld.2⟩
              refine hK.out _ _ (.inr hHeld2) ?_
              clear hK K
              (try go_frame)
              clear hHeld
              refine wpAnyM_only (i := 5) (oi := ⟨some 19, _, _, _, _, _⟩) rfl (by kernel_rfl) (fun K hK => ?_)
              go_simp
              refine (S1.out).mono ?_
              rintro e w1 ⟨rfl, rfl⟩
              go_wp2_with fail
              refine hK.out _ _ (.inr hHeld2) ?_
              clear hK K
              (try go_frame)
              refine wpAnyM_take (i := 6) (oi := ⟨some 20, _, _, _, _, _⟩) (v := (.bool false)) rfl (by kernel_rfl) (by kernel_rfl) (by kernel_rfl) (by kernel_rfl) (by decide) (fun _ _ _ h => h) (by assumption) (Or.inl ⟨by rfl, ?_⟩) ?_
              · intro W hSW
                (try dsimp only at hSW)
                go_simp
              (try go_frame)
              refine wpAnyM_take (i := 7) (oi := ⟨some 21, _, _, _, _, _⟩) (v := (.bool false)) rfl (by kernel_rfl) (by kernel_rfl) (by kernel_rfl) (by kernel_rfl) (by decide) (fun _ _ _ h => h) (by assumption) (Or.inl ⟨by rfl, ?_⟩) ?_
              · intro W hSW
                (try dsimp only at hSW)
                go_simp
              (try go_frame)
              refine wpAnyM_take (i := 8) (oi := ⟨some 22, _, _, _, _, _⟩) (v := (.pointer (some ⟨wo.heap.size, 1, none⟩))) rfl (by kernel_rfl) (by kernel_rfl) (by kernel_rfl) (by kernel_rfl) (by decide) (fun _ _ _ h => h) (by assumption) (Or.inl ⟨by rfl, ?_⟩) ?_
              · intro W hSW
                (try dsimp only at hSW)
                go_simp
              (try go_frame)
              refine wpAnyM_take (i := 9) (oi := ⟨some 23, _, _, _, _, _⟩) (v := (.string p.dir)) rfl (by kernel_rfl) (by kernel_rfl) (by kernel_rfl) (by kernel_rfl) (by decide) (fun _ _ _ h => h) (by assumption) (Or.inl ⟨by rfl, ?_⟩) ?_
              · intro W hSW
                (try dsimp only at hSW)
                go_simp
              (try go_frame)
              refine wpAnyM_take (i := 10) (oi := ⟨some 24, _, _, _, _, _⟩) (v := (.bool false)) rfl (by kernel_rfl) (by kernel_rfl) (by kernel_rfl) (by kernel_rfl) (by decide) (fun _ _ _ h => h) (by assumption) (Or.inl ⟨by rfl, ?_⟩) ?_
              · intro W hSW
                (try dsimp only at hSW)
                go_simp
              (try go_frame)
              refine wpAnyM_take (i := 11) (oi := ⟨some 25, _, _, _, _, _⟩) (v := (.bool false)) rfl (by kernel_rfl) (by kernel_rfl) (by kernel_rfl) (by kernel_rfl) (by decide) (fun _ _ _ h => h) (by assumption) (Or.inl ⟨by rfl, ?_⟩) ?_
              · intro W hSW
                (try dsimp only at hSW)
                go_simp
              (try go_frame)
              refine wpAnyM_take (i := 12) (oi := ⟨some 26, _, _, _, _, _⟩) (v := (.bool false)) rfl (by kernel_rfl) (by kernel_rfl) (by kernel_rfl) (by kernel_rfl) (by decide) (fun _ _ _ h => h) (by assumption) (Or.inl ⟨by rfl, ?_⟩) ?_
              · intro W hSW
                (try dsimp only at hSW)
                go_simp
              (try go_frame)
              refine wpAnyM_take (i := 13) (oi := ⟨some 27, _, _, _, _, _⟩) (v := (.pointer (some ⟨wo.heap.size, 2, none⟩))) rfl (by kernel_rfl) (by kernel_rfl) (by kernel_rfl) (by kernel_rfl) (by decide) (fun _ _ _ h => h) (by assumption) (Or.inl ⟨by rfl, ?_⟩) ?_
              · intro W hSW
                (try dsimp only at hSW)
                go_simp
              (try go_frame)
              refine wpAnyM_take (i := 14) (oi := ⟨some 28, _, _, _, _, _⟩) (v := (.slice Af p.files.length cf)) rfl (by kernel_rfl) (by kernel_rfl) (by kernel_rfl) (by kernel_rfl) (by decide) (fun _ _ _ h => h) (by assumption) (Or.inl ⟨by rfl, ?_⟩) ?_
              · intro W hSW
                (try dsimp only at hSW)
                go_simp
              (try go_frame)
              refine wpAnyM_take (i := 15) (oi := ⟨some 29, _, _, _, _, _⟩) (v := (.int .i64 p.files.length)) rfl (by kernel_rfl) (by kernel_rfl) (by kernel_rfl) (by kernel_rfl) (by decide) (fun _ _ _ h => h) (by assumption) (Or.inl ⟨by rfl, ?_⟩) ?_
              · intro W hSW
                (try dsimp only at hSW)
                go_simp
              (try go_frame)
              refine wpAnyM_take (i := 16) (oi := ⟨some 30, _, _, _, _, _⟩) (v := (.bool false)) rfl (by kernel_rfl) (by kernel_rfl) (by kernel_rfl) (by kernel_rfl) (by decide) (fun _ _ _ h => h) (by assumption) (Or.inl ⟨by rfl, ?_⟩) ?_
              · intro W hSW
                (try dsimp only at hSW)
                go_simp
              (try go_frame)
              refine wpAnyM_take (i := 17) (oi := ⟨some 31, _, _, _, _, _⟩) (v := (.bool false)) rfl (by kernel_rfl) (by kernel_rfl) (by kernel_rfl) (by kernel_rfl) (by decide) (fun _ _ _ h => h) (by assumption) (Or.inl ⟨by rfl, ?_⟩) ?_
              · intro W hSW
                (try dsimp only at hSW)
                go_simp
              (try go_frame)
              refine wpAnyM_take (i := 18) (oi := ⟨some 32, _, _, _, _, _⟩) (v := (.bool false)) rfl (by kernel_rfl) (by kernel_rfl) (by kernel_rfl) (by kernel_rfl) (by decide) (fun _ _ _ h => h) (by assumption) (Or.inl ⟨by rfl, ?_⟩) ?_
              · intro W hSW
                (try dsimp only at hSW)
                go_simp
              (try go_frame)
              refine wpAnyM_take (i := 19) (oi := ⟨some 33, _, _, _, _, _⟩) (v := (.int .i64 k)) rfl (by kernel_rfl) (by kernel_rfl) (by kernel_rfl) (by kernel_rfl) (by decide) (fun _ _ _ h => h) (by assumption) (Or.inl ⟨by rfl, ?_⟩) ?_
              · intro W hSW
                (try dsimp only at hSW)
                go_simp
              (try go_frame)
              refine wpAnyM_take (i := 20) (oi := ⟨some 34, _, _, _, _, _⟩) (v := (.bool true)) rfl (by kernel_rfl) (by kernel_rfl) (by kernel_rfl) (by kernel_rfl) (by decide) (fun _ _ _ h => h) (by assumption) (Or.inl ⟨by rfl, ?_⟩) ?_
              · intro W hSW
                (try dsimp only at hSW)
                go_simp
              (try go_frame)
              refine wpAnyM_take (i := 21) (oi := ⟨some 35, _, _, _, _, _⟩) (v := (.bool true)) rfl (by kernel_rfl) (by kernel_rfl) (by kernel_rfl) (by kernel_rfl) (by decide) (fun _ _ _ h => h) (by assumption) (Or.inl ⟨by rfl, ?_⟩) ?_
              · intro W hSW
                (try dsimp only at hSW)
                go_simp
              (try go_frame)
              refine wpAnyM_take (i := 22) (oi := ⟨some 36, _, _, _, _, _⟩) (v := (.pointer (some ⟨wo.heap.size, 1, none⟩))) rfl (by kernel_rfl) (by kernel_rfl) (by kernel_rfl) (by kernel_rfl) (by decide) (fun _ _ _ h => h) (by assumption) (Or.inl ⟨by rfl, ?_⟩) ?_
              · intro W hSW
                (try dsimp only at hSW)
                go_simp
              (try go_frame)
              refine wpAnyM_take (i := 23) (oi := ⟨some 37, _, _, _, _, _⟩) (v := (.string p.dir)) rfl (by kernel_rfl) (by kernel_rfl) (by kernel_rfl) (by kernel_rfl) (by decide) (fun _ _ _ h => h) (by assumption) (Or.inl ⟨by rfl, ?_⟩) ?_
              · intro W hSW
                (try dsimp only at hSW)
                go_simp
              (try go_frame)
              refine wpAnyM_take (i := 24) (oi := ⟨some 38, _, _, _, _, _⟩) (v := (.slice (some ⟨gp, op, none⟩) ps.length c)) rfl (by kernel_rfl) (by kernel_rfl) (by kernel_rfl) (by kernel_rfl) (by decide) (fun _ _ _ h => h) (by assumption) (Or.inl ⟨by rfl, ?_⟩) ?_
              · intro W hSW
                (try dsimp only at hSW)
                go_simp
              (try go_frame)
              refine wpAnyM_take (i := 25) (oi := ⟨some 39, _, _, _, _, _⟩) (v := (.int .i64 k)) rfl (by kernel_rfl) (by kernel_rfl) (by kernel_rfl) (by kernel_rfl) (by decide) (fun _ _ _ h => h) (by assumption) (Or.inl ⟨by rfl, ?_⟩) ?_
              · intro W hSW
                (try dsimp only at hSW)
                go_simp
              (try go_frame)
              refine wpAnyM_take (i := 26) (oi := ⟨some 40, _, _, _, _, _⟩) (v := (.int .i64 ((k - 1 : Nat) : Int))) rfl (by kernel_rfl) (by kernel_rfl) (by kernel_rfl) (by kernel_rfl) (by decide) (fun _ _ _ h => h) (by assumption) (Or.inl ⟨by rfl, ?_⟩) ?_
              · intro W hSW
                (try dsimp only at hSW)
                go_simp
              (try go_frame)
              refine wpAnyM_take (i := 27) (oi := ⟨some 41, _, _, _, _, _⟩) (v := (.pointer (some ⟨gp, op + (k - 1) * 3, none⟩))) rfl (by kernel_rfl) (by kernel_rfl) (by kernel_rfl) (by kernel_rfl) (by decide) (fun _ _ _ h => h) (by assumption) (Or.inl ⟨by rfl, ?_⟩) ?_
              · intro W hSW
                (try dsimp only at hSW)
                go_simp
              (try go_frame)
              refine wpAnyM_take (i := 28) (oi := ⟨some 42, _, _, _, _, _⟩) (v := (.pointer (some ⟨gp, op + (k - 1) * 3 + 1, none⟩))) rfl (by kernel_rfl) (by kernel_rfl) (by kernel_rfl) (by kernel_rfl) (by decide) (fun _ _ _ h => h) (by assumption) (Or.inl ⟨by rfl, ?_⟩) ?_
              · intro W hSW
                (try dsimp only at hSW)
                go_simp
              (try go_frame)
              refine wpAnyM_take (i := 29) (oi := ⟨some 43, _, _, _, _, _⟩) (v := (.string q)) rfl (by kernel_rfl) (by kernel_rfl) (by kernel_rfl) (by kernel_rfl) (by decide) (fun _ _ _ h => h) (by assumption) (Or.inl ⟨by rfl, ?_⟩) ?_
              · intro W hSW
                (try dsimp only at hSW)
                go_simp
              (try go_frame)
              refine wpAnyM_take (i := 30) (oi := ⟨some 44, _, _, _, _, _⟩) (v := (.bool false)) rfl (by kernel_rfl) (by kernel_rfl) (by kernel_rfl) (by kernel_rfl) (by decide) (fun _ _ _ h => h) (by assumption) (Or.inl ⟨by rfl, ?_⟩) ?_
              · intro W hSW
                (try dsimp only at hSW)
                go_simp
              (try go_frame)
              refine wpAnyM_take (i := 31) (oi := ⟨some 45, _, _, _, _, _⟩) (v := (.bool false)) rfl (by kernel_rfl) (by kernel_rfl) (by kernel_rfl) (by kernel_rfl) (by decide) (fun _ _ _ h => h) (by assumption) (Or.inl ⟨by rfl, ?_⟩) ?_
              · intro W hSW
                (try dsimp only at hSW)
                go_simp
              (try go_frame)
              refine wpAnyM_take (i := 32) (oi := ⟨some 46, _, _, _, _, _⟩) (v := (.bool false)) rfl (by kernel_rfl) (by kernel_rfl) (by kernel_rfl) (by kernel_rfl) (by decide) (fun _ _ _ h => h) (by assumption) (Or.inl ⟨by rfl, ?_⟩) ?_
              · intro W hSW
                (try dsimp only at hSW)
                go_simp
              (try go_frame)
              refine wpAnyM_done (by kernel_rfl) (NoPanic.normal ?_)
              clear hHeld2 b3 b4 b5 hno1 hno2
              have hcmp : Hid (∀ x, 0 < k → ps[k - 1]? = some x → Lib.compareBytes x.dir.data.toList p.dir.data.toList = -1) := Lib.hid fun x _ hx => by
                rw [List.getElem?_eq_getElem hq1] at hx
                injection hx with hx
                rw [← hx, HQ2.out]
                refine le_no fun h => ?_
                rcases h with h | h
                · rw [hno.1] at h
                  cases h
                · have := hno.2
                  rw [h] at this
                  simp at this
              clear hno hq hkp hkn
              go_wp2_with fail
            all_goals
              go_loopw [6, 50] (fun _ j wx => ∃ m : Nat, m ≤ p.files.length ∧ j = .int .i64 m ∧ Below w.heap.size wo wx ∧ ∀ f ∈ p.files.take m, f.Ok) (fun _ j _ => p.files.length - (intOf j).toNat)
              case atStart => exact ⟨0, Nat.zero_le _, rfl, hF2o, by simp⟩
              case round =>
                obtain ⟨m, hm, rfl, hFo, hall⟩ := hrel
                have hFx := hF.trans hFo
                obtain ⟨wx, rfl⟩ : ∃ wx : World, wx = wr := ⟨_, rfl⟩
                have hszx := hFx.size
                by_cases hltm : m < p.files.length
                · obtain ⟨gf, of, cs, rfl, hgf, hlen, hR, hcell⟩ := (ListAt.files_below HFS.out (hFo.mono hB)).get (by omega) m hltm
                  have hwf := HWP.out.each _ (List.getElem_mem hltm)
                  have HALL : Hid (p.files[m].Ok → ∀ f ∈ p.files.take (m + 1), f.Ok) := Lib.hid fun h f hf => by
                    rw [List.take_add_one, List.getElem?_eq_getElem hltm, List.mem_append] at hf
                    rcases hf with hf | hf
                    · exact hall f hf
                    · simp at hf
                      rw [hf]
                      exact h
                  generalize p.files[m] = f at hR hwf HALL
                  have HC := Lib.hid (fun W (h : Below wx.heap.size wx W) => fileOk_any B cs f W (Nat.le_trans (Nat.le_trans hB hszx) h.size) hwf (hR.below (h.mono (Nat.le_trans hB hszx))))
                  obtain ⟨vc, vi, ve, vd, rfl, ⟨A1, c1, rfl, _⟩, ⟨A2, c2, rfl, _⟩, ⟨A3, c3, rfl, _⟩, ⟨A4, c4, rfl, _⟩⟩ := hR
                  have d0 : wx.cell? ⟨gf, of + m * 13, none⟩ = some (.string f.err) := hcell 0 _ rfl
                  have d1 : wx.cell? ⟨gf, of + m * 13 + 1, none⟩ = some (.string f.perr) := hcell 1 _ rfl
                  have d2 : wx.cell? ⟨gf, of + m * 13 + 2, none⟩ = some (.string f.name) := hcell 2 _ rfl
                  have d3 : wx.cell? ⟨gf, of + m * 13 + 3, none⟩ = some (.string f.syn) := hcell 3 _ rfl
                  have d4 : wx.cell? ⟨gf, of + m * 13 + 4, none⟩ = some (.string f.pkg) := hcell 4 _ rfl
                  have d5 : wx.cell? ⟨gf, of + m * 13 + 5, none⟩ = some (.bool f.ign) := hcell 5 _ rfl
                  have d6 : wx.cell? ⟨gf, of + m * 13 + 6, none⟩ = some (.bool f.bin) := hcell 6 _ rfl
                  have d7 : wx.cell? ⟨gf, of + m * 13 + 7, none⟩ = some (.string f.cgo) := hcell 7 _ rfl
                  have d8 : wx.cell? ⟨gf, of + m * 13 + 8, none⟩ = some (.string f.con) := hcell 8 _ rfl
                  have d9 : wx.cell? ⟨gf, of + m * 13 + 9, none⟩ = some (.slice A1 f.cons.length c1) := hcell 9 _ rfl
                  have d10 : wx.cell? ⟨gf, of + m * 13 + 10, none⟩ = some (.slice A2 f.imps.length c2) := hcell 10 _ rfl
                  have d11 : wx.cell? ⟨gf, of + m * 13 + 11, none⟩ = some (.slice A3 f.embs.length c3) := hcell 11 _ rfl
                  have d12 : wx.cell? ⟨gf, of + m * 13 + 12, none⟩ = some (.slice A4 f.dirs.length c4) := hcell 12 _ rfl
                  clear hcell hwf hall hlen
                  go_wp2_with fail
                  refine (HC.out _ ((Below.refl _ _).alloc (Nat.le_refl _) _)).mono ?_
                  rintro e w1 ⟨b, rfl, hb1, hs1⟩
                  have hF3o : Below w.heap.size wo w1 := (hFo.alloc hszx _).trans (hb1.mono (by simp; omega))
                  have hF3 := hF.trans hF3o
                  have HS := Lib.hid hs1
                  clear d0 d1 d2 d3 d4 d5 d6 d7 d8 d9 d10 d11 d12 hb1 hs1
                  cases b
                  · go_wp2_with fail
                    go_ret
                    exact ⟨_, rfl, hF3, fun h => by cases h⟩
                  · have HA2 := Lib.hid (HALL.out (HS.out rfl))
                    clear HALL HS
                    go_wp2_with fail
                    go_roundw
                    case rel => first | exact ⟨m + 1, by omega, by go_num, hF3o, HA2.out⟩ | ((repeat apply Exists.intro); exact ⟨⟨(by omega : m + 1 ≤ p.files.length), by go_num, hF3o, HA2.out⟩, rfl⟩)
                    case measure => simp [intOf]; omega
                · have hml : m = p.files.length := by omega
                  subst hml
                  rw [List.take_length] at hall
                  have hm1 := shortB_mem h1'
                  have hpok : p.Ok := { err := hm1 _ (by simp), dir := hm1 _ (by simp), filesL := by omega, files := hall }
                  have HU := Lib.hid (hup2.out hpok hcmp.out)
                  clear hall hpok hm1
                  go_wp2_with fail
                  go_roundw
                  case rel => exact ⟨k + 1, by omega, by go_num, hFx, HU.out⟩
                  case measure => simp [intOf]; omega
    · have hkl : k = ps.length := by omega
      subst hkl
      have HUP := Lib.hid hup
      clear hup
      go_wp2_with fail
      go_ret
      refine ⟨_, rfl, hF, fun h => ?_⟩
      have hup := HUP.out
      have hl10 : ps.length ≤ 10 := by
        simp at h
        omega
      have hst : Strict ps := fun k hk => hup.2 k _ _ hk (List.getElem?_eq_getElem (by omega)) (List.getElem?_eq_getElem hk)
      refine ⟨⟨hl10, fun p hp => hup.1 p (by rw [List.take_length]; exact hp), fun k hk => ?_⟩, hst⟩
      have := hst k hk
      rcases cmp_tri ps[k].dir.data.toList ps[k + 1].dir.data.toList with h1 | h1 | h1
      · rw [h1.2]
        decide
      · rw [h1, cmp_refl] at this
        cases this
      · rw [h1.1] at this
        cases this

end Go.Proofs.YtanfimeajalffaaGreatDoor
