/-
  FnApart: the law returns true, and leaves what was there. Conditions: packages as they lie in memory, no list longer than a number can tell.
-/
import Derived.Test.YtanfimeajalffaaIndexOk
import Derived.Test.YtanfimeajalffaaSames2
import Derived.Test.YtanfimeajalffaaZZEncode
import Derived.Test.YtanfimeajalffaaLayInj
import Derived.Laws.BytesArg
namespace Go.Proofs.Ytanfimeajalffaa
open Go.RowKit
attribute [local go_sem ↓] Go.wp_at_zero Go.wp_at_succ

/-- Bytes to a text, whatever the address where there are none. -/
theorem conv_any (A : Option Addr) (c : Nat) (l : List UInt8) (w : World) (hp : 0 < l.length → ∃ g o, A = some ⟨g, o, none⟩ ∧ ∀ j (hj : j < l.length), w.cell? ⟨g, o + j, none⟩ = some (.int .u8 (l[j]).toNat)) :
    (convert 24 9 (.slice A l.length c)).run Try.prog w = .ok (.string ⟨l.toArray⟩) w := by
  have hxs : ((l.map fun b => ((b.toNat : Nat) : Int)).map (fun n => UInt8.ofNat n.toNat)) = l := by
    rw [List.map_map]
    conv => rhs; rw [← List.map_id l]
    apply List.map_congr_left
    intro b _
    simp
  rcases A with _ | a
  · have h0 : l = [] := by
      rcases l with _ | ⟨b, l⟩
      · rfl
      · obtain ⟨g, o, h, _⟩ := hp (by simp)
        cases h
    subst h0
    exact run_convert_bytes_nil w 24 5 Try.underlying24 Try.underlying5 _ _ 9 Try.underlying9
  · have hl : (loadCells a l.length).run Try.prog w = .ok ((l.map fun b => ((b.toNat : Nat) : Int)).map (Value.int .u8)).toArray w := by
      have := run_loadCells_list (P := Try.prog) w a ((l.map fun b => ((b.toNat : Nat) : Int)).map (Value.int .u8)) (fun j v hj => by
        have hjl : j < l.length := by
          have := (List.getElem?_eq_some_iff.1 hj).1
          simpa using this
        obtain ⟨g, o, h, hc⟩ := hp (by omega)
        injection h with h
        subst h
        have hplain : (⟨g, o, none⟩ : Addr).add j = ⟨g, o + j, none⟩ := by unfold Addr.add; split <;> simp_all
        rw [hplain, hc j hjl]
        simp [List.getElem?_eq_getElem hjl] at hj
        subst hj
        rfl)
      simpa using this
    rw [run_convert_bytes_string w 24 9 5 _ l.length c Try.underlying24 Try.underlying5 Try.underlying9, run_bytesToString w _ l.length c _ hl, foldl_push_bytes, hxs]
    simp [ByteArray.empty, ByteArray.emptyWithCapacity]
    rfl

theorem conv_own {w : World} {base c : Nat} {A : Option Addr} {l : List UInt8} (h : w.ownsRow base 5 1 (.slice A l.length c) l.length (Lib.byteCells l)) : (convert 24 9 (.slice A l.length c)).run Try.prog w = .ok (.string ⟨l.toArray⟩) w :=
  conv_any A c l w fun h0 => by
    obtain ⟨g, cap, hv, _⟩ := h.form h0
    injection hv with hA
    subst hA
    exact ⟨g, 0, rfl, fun j hj => by rw [Nat.zero_add, h.cellAt j (by omega)]; exact bc_getElem l j hj⟩

theorem encode_any (B : Nat) (v : Value) (ps : List PkgD) (w : World) (hB : B ≤ w.heap.size) (hok : PkgsOk ps) (hv : PkgsAt w B v ps) :
    Calls Try.prog 6 #[v] w fun e w' => ∃ v', e = .returned v' ∧ w'.ownsRow w.heap.size 5 1 v' (enc ps).length (Lib.byteCells (enc ps)) ∧ Below w.heap.size w w' :=
  encode_of B v ps w hB hok hv fun u W h => zzEncode_any u ps W hok h

theorem enc_pos (ps : List PkgD) (h : PkgsOk ps) : 0 < (enc ps).length ∧ (enc ps).length ≤ 80000000 := by
  obtain ⟨b, t, h1, _, h2, _, _, _, h3, h4, _⟩ := enc_is ps h
  refine ⟨?_, h4⟩
  rw [h1, List.length_append]
  omega
theorem str_ne {l m : List UInt8} (h : l ≠ m) : (⟨l.toArray⟩ : ByteArray).toList ≠ (⟨m.toArray⟩ : ByteArray).toList := by
  rw [ByteArray.toList_eq, ByteArray.toList_eq]
  simpa using h

set_option maxHeartbeats 4000000 in
set_option maxRecDepth 100000 in
theorem fnApart_any (u v : Value) (xs ys : List PkgD) (w : World) (hl1 : xs.length ≤ 9223372036854775807) (hl2 : ys.length ≤ 9223372036854775807) (hw1 : ∀ p ∈ xs, p.Wide) (hw2 : ∀ p ∈ ys, p.Wide) (hx : PkgsAt w w.heap.size u xs) (hy : PkgsAt w w.heap.size v ys) :
    Calls Try.prog 3 #[u, v] w fun e w' => e = .returned (.bool true) ∧ Below w.heap.size w w' := by
  have hX := fun (W : World) (h : Below w.heap.size w W) => PkgsAt.below hx h
  have hY := fun (W : World) (h : Below w.heap.size w W) => PkgsAt.below hy h
  have F1 := Lib.hid (fun (W : World) (h : Below w.heap.size w W) => fits1_any w.heap.size u xs W h.size hl1 hw1 (hX W h))
  have F2 := Lib.hid (fun (W : World) (h : Below w.heap.size w W) => fits1_any w.heap.size v ys W h.size hl2 hw2 (hY W h))
  have O1 := Lib.hid (fun (W : World) (h : Below w.heap.size w W) => indexOk_any w.heap.size u xs W h.size hl1 hw1 (hX W h))
  have O2 := Lib.hid (fun (W : World) (h : Below w.heap.size w W) => indexOk_any w.heap.size v ys W h.size hl2 hw2 (hY W h))
  have E1 := Lib.hid (fun (W : World) (h : Below w.heap.size w W) (hok : PkgsOk xs) => encode_any w.heap.size u xs W h.size hok (hX W h))
  have E2 := Lib.hid (fun (W : World) (h : Below w.heap.size w W) (hok : PkgsOk ys) => encode_any w.heap.size v ys W h.size hok (hY W h))
  have S1 := Lib.hid (fun (W : World) (h : Below w.heap.size w W) => samePkgs_any w.heap.size u v xs ys W h.size hl1 hw1 (hX W h) (hY W h))
  obtain ⟨A, c, rfl⟩ := ListAt.form hx
  obtain ⟨A', c', rfl⟩ := ListAt.form hy
  have hb0 : Below w.heap.size w w := Below.refl _ _
  clear hx hy hX hY hw1 hw2
  go_enter Try.func3, Try.ntmps3
  go_wp2_with fail
  refine (F1.out _ hb0).mono ?_
  rintro e w1 ⟨b1, rfl, hc1⟩
  have hb1 := hb0.trans (hc1.mono hb0.size)
  clear hc1
  cases b1
  case' false =>
    go_wp2_with fail
    go_ret
    exact ⟨rfl, hb1⟩
  go_wp2_with fail
  refine (F2.out _ hb1).mono ?_
  rintro e w2 ⟨b2, rfl, hc2⟩
  have hb2 := hb1.trans (hc2.mono hb1.size)
  clear hc2
  cases b2
  case' false =>
    go_wp2_with fail
    go_ret
    exact ⟨rfl, hb2⟩
  go_wp2_with fail
  refine (O1.out _ hb2).mono ?_
  rintro e w3 ⟨b3, rfl, hc3, hs3⟩
  have hb3 := hb2.trans (hc3.mono hb2.size)
  have HS3 := Lib.hid hs3
  clear hc3 hs3
  cases b3
  case' false =>
    go_wp2_with fail
    go_ret
    exact ⟨rfl, hb3⟩
  go_wp2_with fail
  refine (O2.out _ hb3).mono ?_
  rintro e w4 ⟨b4, rfl, hc4, hs4⟩
  have hb4 := hb3.trans (hc4.mono hb3.size)
  have HS4 := Lib.hid hs4
  clear hc4 hs4
  cases b4
  case' false =>
    go_wp2_with fail
    go_ret
    exact ⟨rfl, hb4⟩
  have hp1 := (HS3.out (by simp)).1
  have hp2 := (HS4.out (by simp)).1
  have HINJ := Lib.hid (enc_inj hp1 hp2)
  have hpos := enc_pos xs hp1
  have D1 := Lib.hid (fun W h => E1.out W h hp1)
  have D2 := Lib.hid (fun W h => E2.out W h hp2)
  clear HS3 HS4 hp1 hp2
  generalize enc xs = l1 at HINJ hpos D1
  generalize enc ys = l2 at HINJ D2
  obtain ⟨hp0, hp8⟩ := hpos
  have hp3 : (0 : Int) < (l1.length : Int) := by omega
  clear hb0 hb1 hb2 hb3
  go_wp2_with fail
  refine (D1.out _ hb4).mono ?_
  rintro e w5 ⟨v1, rfl, ho1, hc5⟩
  have hb5 := hb4.trans (hc5.mono hb4.size)
  obtain ⟨A1, c1, rfl⟩ := own_form' ho1
  have HO1 := Lib.hid ho1
  clear hc5 ho1
  go_wp2_with fail
  refine (D2.out _ hb5).mono ?_
  rintro e w6 ⟨v2, rfl, ho2, hc6⟩
  have hb6 := hb5.trans (hc6.mono hb5.size)
  obtain ⟨A2, c2, rfl⟩ := own_form' ho2
  have HO1' := Lib.hid (own_below HO1.out hc6)
  have HO2 := Lib.hid ho2
  clear hc6 ho2 HO1 hb4 hb5
  have HC : Hid (∀ W, Below w6.heap.size w6 W → (convert 24 9 (.slice A1 l1.length c1)).run Try.prog W = .ok (.string ⟨l1.toArray⟩) W ∧ (convert 24 9 (.slice A2 l2.length c2)).run Try.prog W = .ok (.string ⟨l2.toArray⟩) W) :=
    Lib.hid fun W h => ⟨conv_own (own_below HO1'.out h), conv_own (own_below HO2.out h)⟩
  go_wp2_with fail
  refine wp_region_m 99 (fun W => (convert 24 9 (.slice A1 l1.length c1)).run Try.prog W = .ok (.string ⟨l1.toArray⟩) W ∧ (convert 24 9 (.slice A2 l2.length c2)).run Try.prog W = .ok (.string ⟨l2.toArray⟩) W) (by kernel_rfl) ?_
  have hHeld := HC.out w6.drew (Below.refl _ _).drew
  refine wpAnyM_take (i := 0) (oi := ⟨some 27, _, _, _, _, _⟩) (v := (.slice A1 l1.length c1)) rfl (by kernel_rfl) (by kernel_rfl) (by kernel_rfl) (by kernel_rfl) (by decide) (fun _ _ _ h => h) (by assumption) (Or.inl ⟨by rfl, ?_⟩) ?_
  · intro W hSW
    (try dsimp only at hSW)
    go_simp
  (try go_frame)
  refine wpAnyM_take (i := 1) (oi := ⟨some 28, _, _, _, _, _⟩) (v := (.int .i64 l1.length)) rfl (by kernel_rfl) (by kernel_rfl) (by kernel_rfl) (by kernel_rfl) (by decide) (fun _ _ _ h => h) (by assumption) (Or.inl ⟨by rfl, ?_⟩) ?_
  · intro W hSW
    (try dsimp only at hSW)
    go_simp
  (try go_frame)
  refine wpAnyM_take (i := 2) (oi := ⟨some 29, _, _, _, _, _⟩) (v := (.bool true)) rfl (by kernel_rfl) (by kernel_rfl) (by kernel_rfl) (by kernel_rfl) (by decide) (fun _ _ _ h => h) (by assumption) (Or.inl ⟨by rfl, ?_⟩) ?_
  · intro W hSW
    (try dsimp only at hSW)
    go_simp
  (try go_frame)
  refine wpAnyM_take (i := 3) (oi := ⟨some 30, _, _, _, _, _⟩) (v := (.bool true)) rfl (by kernel_rfl) (by kernel_rfl) (by kernel_rfl) (by kernel_rfl) (by decide) (fun _ _ _ h => h) (by assumption) (Or.inl ⟨by rfl, ?_⟩) ?_
  · intro W hSW
    (try dsimp only at hSW)
    go_simp
  (try go_frame)
  refine wpAnyM_take (i := 4) (oi := ⟨some 31, _, _, _, _, _⟩) (v := (.slice A1 l1.length c1)) rfl (by kernel_rfl) (by kernel_rfl) (by kernel_rfl) (by kernel_rfl) (by decide) (fun _ _ _ h => h) (by assumption) (Or.inl ⟨by rfl, ?_⟩) ?_
  · intro W hSW
    (try dsimp only at hSW)
    go_simp
  (try go_frame)
  refine wpAnyM_take (i := 5) (oi := ⟨some 32, _, _, _, _, _⟩) (v := (.string ⟨l1.toArray⟩)) rfl (by kernel_rfl) (by kernel_rfl) (by kernel_rfl) (by kernel_rfl) (by decide) (fun _ _ _ h => h) (by assumption) (Or.inl ⟨by rfl, ?_⟩) ?_
  · intro W hSW
    (try dsimp only at hSW)
    go_simp
  (try go_frame)
  refine wpAnyM_take (i := 6) (oi := ⟨some 33, _, _, _, _, _⟩) (v := (.slice A2 l2.length c2)) rfl (by kernel_rfl) (by kernel_rfl) (by kernel_rfl) (by kernel_rfl) (by decide) (fun _ _ _ h => h) (by assumption) (Or.inl ⟨by rfl, ?_⟩) ?_
  · intro W hSW
    (try dsimp only at hSW)
    go_simp
  (try go_frame)
  refine wpAnyM_take (i := 7) (oi := ⟨some 34, _, _, _, _, _⟩) (v := (.string ⟨l2.toArray⟩)) rfl (by kernel_rfl) (by kernel_rfl) (by kernel_rfl) (by kernel_rfl) (by decide) (fun _ _ _ h => h) (by assumption) (Or.inl ⟨by rfl, ?_⟩) ?_
  · intro W hSW
    (try dsimp only at hSW)
    go_simp
  (try go_frame)
  by_cases hll : l1 = l2
  · subst hll
    refine wpAnyM_take (i := 8) (oi := ⟨some 35, _, _, _, _, _⟩) (v := (.bool true)) rfl (by kernel_rfl) (by kernel_rfl) (by kernel_rfl) (by kernel_rfl) (by decide) (fun _ _ _ h => h) (by assumption) (Or.inl ⟨by rfl, ?_⟩) ?_
    · intro W hSW
      (try dsimp only at hSW)
      go_simp
    (try go_frame)
    refine wpAnyM_take (i := 9) (oi := ⟨some 36, _, _, _, _, _⟩) (v := (.slice A xs.length c)) rfl (by kernel_rfl) (by kernel_rfl) (by kernel_rfl) (by kernel_rfl) (by decide) (fun _ _ _ h => h) (by assumption) (Or.inl ⟨by rfl, ?_⟩) ?_
    · intro W hSW
      (try dsimp only at hSW)
      go_simp
    (try go_frame)
    refine wpAnyM_take (i := 10) (oi := ⟨some 37, _, _, _, _, _⟩) (v := (.slice A' ys.length c')) rfl (by kernel_rfl) (by kernel_rfl) (by kernel_rfl) (by kernel_rfl) (by decide) (fun _ _ _ h => h) (by assumption) (Or.inl ⟨by rfl, ?_⟩) ?_
    · intro W hSW
      (try dsimp only at hSW)
      go_simp
    (try go_frame)
    refine wpAnyM_only (i := 11) (oi := ⟨some 38, _, _, _, _, _⟩) rfl (by kernel_rfl) (fun K hK => ?_)
    go_simp
    refine (S1.out _ hb6.drew).mono ?_
    rintro e w7 ⟨b, rfl, hc7, hs7⟩
    have hb7 := hb6.drew.trans (hc7.mono hb6.size)
    have hHeld2 := HC.out w7 ((Below.refl _ _).drew.trans hc7)
    have hbt : b = true := hs7.2 (HINJ.out.1 rfl)
    subst hbt
    clear hs7 hc7
    go_wp2_with fail
    refine hK.out _ _ (.inr hHeld2) ?_
    clear hK K
    (try go_frame)
    clear hHeld
    refine wpAnyM_take (i := 12) (oi := ⟨some 39, _, _, _, _, _⟩) (v := (.bool true)) rfl (by kernel_rfl) (by kernel_rfl) (by kernel_rfl) (by kernel_rfl) (by decide) (fun _ _ _ h => h) (by assumption) (Or.inl ⟨by rfl, ?_⟩) ?_
    · intro W hSW
      (try dsimp only at hSW)
      go_simp
    (try go_frame)
    refine wpAnyM_take (i := 13) (oi := ⟨some 40, _, _, _, _, _⟩) (v := (.bool true)) rfl (by kernel_rfl) (by kernel_rfl) (by kernel_rfl) (by kernel_rfl) (by decide) (fun _ _ _ h => h) (by assumption) (Or.inl ⟨by rfl, ?_⟩) ?_
    · intro W hSW
      (try dsimp only at hSW)
      go_simp
    (try go_frame)
    refine wpAnyM_take (i := 14) (oi := ⟨some 4, _, _, _, _, _⟩) (v := (.bool true)) rfl (by kernel_rfl) (by kernel_rfl) (by kernel_rfl) (by kernel_rfl) (by decide) (fun _ _ _ h => h) (by assumption) (Or.inl ⟨by rfl, ?_⟩) ?_
    · intro W hSW
      (try dsimp only at hSW)
      go_simp
    (try go_frame)
    refine wpAnyM_done (by kernel_rfl) (NoPanic.normal ?_)
    clear hHeld2
    go_wp2_with fail
    go_ret
    exact ⟨rfl, hb7⟩
  · have hs1 := str_ne hll
    have hs2 : ((⟨l1.toArray⟩ : ByteArray).toList == (⟨l2.toArray⟩ : ByteArray).toList) = false := by simpa using hs1
    refine wpAnyM_take (i := 8) (oi := ⟨some 35, _, _, _, _, _⟩) (v := (.bool false)) rfl (by kernel_rfl) (by kernel_rfl) (by kernel_rfl) (by kernel_rfl) (by decide) (fun _ _ _ h => h) (by assumption) (Or.inl ⟨by rfl, ?_⟩) ?_
    · intro W hSW
      (try dsimp only at hSW)
      go_simp
    (try go_frame)
    refine wpAnyM_take (i := 9) (oi := ⟨some 36, _, _, _, _, _⟩) (v := (.slice A xs.length c)) rfl (by kernel_rfl) (by kernel_rfl) (by kernel_rfl) (by kernel_rfl) (by decide) (fun _ _ _ h => h) (by assumption) (Or.inl ⟨by rfl, ?_⟩) ?_
    · intro W hSW
      (try dsimp only at hSW)
      go_simp
    (try go_frame)
    refine wpAnyM_take (i := 10) (oi := ⟨some 37, _, _, _, _, _⟩) (v := (.slice A' ys.length c')) rfl (by kernel_rfl) (by kernel_rfl) (by kernel_rfl) (by kernel_rfl) (by decide) (fun _ _ _ h => h) (by assumption) (Or.inl ⟨by rfl, ?_⟩) ?_
    · intro W hSW
      (try dsimp only at hSW)
      go_simp
    (try go_frame)
    refine wpAnyM_only (i := 11) (oi := ⟨some 38, _, _, _, _, _⟩) rfl (by kernel_rfl) (fun K hK => ?_)
    go_simp
    refine (S1.out _ hb6.drew).mono ?_
    rintro e w7 ⟨b, rfl, hc7, hs7⟩
    have hb7 := hb6.drew.trans (hc7.mono hb6.size)
    have hHeld2 := HC.out w7 ((Below.refl _ _).drew.trans hc7)
    have hbt : b = false := by
      cases b
      · rfl
      · exact absurd (HINJ.out.2 (hs7.1 rfl)) hll
    subst hbt
    clear hs7 hc7 hs1 hs2
    go_wp2_with fail
    refine hK.out _ _ (.inr hHeld2) ?_
    clear hK K
    (try go_frame)
    clear hHeld
    refine wpAnyM_take (i := 12) (oi := ⟨some 39, _, _, _, _, _⟩) (v := (.bool true)) rfl (by kernel_rfl) (by kernel_rfl) (by kernel_rfl) (by kernel_rfl) (by decide) (fun _ _ _ h => h) (by assumption) (Or.inl ⟨by rfl, ?_⟩) ?_
    · intro W hSW
      (try dsimp only at hSW)
      go_simp
    (try go_frame)
    refine wpAnyM_take (i := 13) (oi := ⟨some 40, _, _, _, _, _⟩) (v := (.bool true)) rfl (by kernel_rfl) (by kernel_rfl) (by kernel_rfl) (by kernel_rfl) (by decide) (fun _ _ _ h => h) (by assumption) (Or.inl ⟨by rfl, ?_⟩) ?_
    · intro W hSW
      (try dsimp only at hSW)
      go_simp
    (try go_frame)
    refine wpAnyM_take (i := 14) (oi := ⟨some 4, _, _, _, _, _⟩) (v := (.bool true)) rfl (by kernel_rfl) (by kernel_rfl) (by kernel_rfl) (by kernel_rfl) (by decide) (fun _ _ _ h => h) (by assumption) (Or.inl ⟨by rfl, ?_⟩) ?_
    · intro W hSW
      (try dsimp only at hSW)
      go_simp
    (try go_frame)
    refine wpAnyM_done (by kernel_rfl) (NoPanic.normal ?_)
    clear hHeld2
    go_wp2_with fail
    go_ret
    exact ⟨rfl, hb7⟩
end Go.Proofs.Ytanfimeajalffaa
