/-
  FnAgain: the law returns true, and leaves what was there. Conditions: packages as they lie in memory.
-/
import Derived.Test.YtanfimeajalffaaDoorLawBase
import Derived.Test.YtanfimeajalffaaDoorDecOk
namespace Go.Proofs.YtanfimeajalffaaDoor
open Go.RowKit
attribute [local go_sem ↓] Go.wp_at_zero Go.wp_at_succ

set_option maxHeartbeats 4000000 in
set_option maxRecDepth 100000 in
theorem fnAgain_any (u : Value) (xs : List PkgD) (w : World) (hl1 : xs.length ≤ 9223372036854775807) (hw1 : ∀ p ∈ xs, p.Wide) (hx : PkgsAt w w.heap.size u xs) :
    Calls Tryd.prog 4 #[u] w fun e w' => e = .returned (.bool true) ∧ Below w.heap.size w w' := by
  have hX := fun (W : World) (h : Below w.heap.size w W) => PkgsAt.below hx h
  have F1 := Lib.hid (fun (W : World) (h : Below w.heap.size w W) => fits1_any w.heap.size u xs W h.size hl1 hw1 (hX W h))
  have O1 := Lib.hid (fun (W : World) (h : Below w.heap.size w W) => indexOk_any w.heap.size u xs W h.size hl1 hw1 (hX W h))
  have E1 := Lib.hid (fun (W : World) (h : Below w.heap.size w W) (hok : PkgsOk xs) => encode_any w.heap.size u xs W h.size hok (hX W h))
  have HX := Lib.hid hX
  have HW := Lib.hid hw1
  obtain ⟨A, c, rfl⟩ := ListAt.form hx
  have hb0 : Below w.heap.size w w := Below.refl _ _
  clear hx hX hw1
  go_enter Tryd.func4, Tryd.ntmps4
  go_wp2_with fail
  refine (F1.out _ hb0).mono ?_
  rintro e w1 ⟨b1, rfl, hc1⟩
  have hb1 := hb0.trans (hc1.mono hb0.size)
  clear hc1
  cases b1
  case' false =>
    go_wp2_with fail
    go_ret
    exact ⟨rfl, hb1⟩
  go_wp2_with fail
  refine (O1.out _ hb1).mono ?_
  rintro e w3 ⟨b3, rfl, hc3, hs3⟩
  have hb3 := hb1.trans (hc3.mono hb1.size)
  have HS3 := Lib.hid hs3
  clear hc3 hs3
  cases b3
  case' false =>
    go_wp2_with fail
    go_ret
    exact ⟨rfl, hb3⟩
  have hp1 := (HS3.out (by simp)).1
  have hl2 := hp1.len
  have HP := Lib.hid hp1
  have HIX := Lib.hid (enc_is xs hp1)
  have hpos := enc_pos xs hp1
  have D1 := Lib.hid (fun W h => E1.out W h hp1)
  have hp0 := hpos.1
  have hp8 := hpos.2
  clear HS3 hp1 hpos hb0 hb1 hl1
  have HEN : Hid (∀ (v : Value) (W : World), PkgsAt W W.heap.size v xs → Calls Tryd.prog 10 #[v] W fun e w' => ∃ v', e = .returned v' ∧ w'.ownsRow W.heap.size 5 1 v' (enc xs).length (Lib.byteCells (enc xs)) ∧ Below W.heap.size W w') :=
    Lib.hid fun v W h => encode_any W.heap.size v xs W (Nat.le_refl _) HP.out h
  generalize enc xs = l at *
  go_wp2_with fail
  refine (D1.out _ hb3).mono ?_
  rintro e w5 ⟨v1, rfl, ho1, hc5⟩
  have hb5 := hb3.trans (hc5.mono hb3.size)
  obtain ⟨A1, c1, rfl⟩ := own_form' ho1
  have HB5 := Lib.hid hb5
  have HO1 := Lib.hid ho1
  clear hc5 D1 hb3 hb5 ho1
  have DO := Lib.hid (implDecode_ok _ l xs w5 (bs_of_own HO1.out) HIX.out hl2 HP.out.each (by omega))
  have hp3 : (0 : Int) < (l.length : Int) := by omega
  go_wp2_with fail
  refine DO.out.mono ?_
  rintro e w6 ⟨A6, c6, rfl, ho6, hb6⟩
  have HPA := Lib.hid (show PkgsAt w6 w6.heap.size (.slice A6 xs.length c6) xs from ho6.t.at_.imp fun _ _ h => h.r)
  have HB6 := Lib.hid (HB5.out.trans (hb6.mono HB5.out.size))
  have HC : Hid (∀ W, Below w6.heap.size w6 W → (convert 30 9 (.slice A1 l.length c1)).run Tryd.prog W = .ok (.string ⟨l.toArray⟩) W) :=
    Lib.hid fun W h => conv_own (own_below (own_below HO1.out hb6) h)
  have E6 := Lib.hid (HEN.out _ w6.drew (HPA.out.below (Below.refl _ _).drew))
  clear ho6 hb6 DO HEN
  go_wp2_with fail
  refine wp_region_m 99 (fun W => (convert 30 9 (.slice A1 l.length c1)).run Tryd.prog W = .ok (.string ⟨l.toArray⟩) W) (by kernel_rfl) ?_
  have hHeld := HC.out w6.drew (Below.refl _ _).drew
  refine wpAnyM_take (i := 0) (oi := ⟨some 19, _, _, _, _, _⟩) (v := (.bool true)) rfl (by kernel_rfl) (by kernel_rfl) (by kernel_rfl) (by kernel_rfl) (by decide) (fun _ _ _ h => h) (by assumption) (Or.inl ⟨by rfl, ?_⟩) ?_
  · intro W hSW
    (try dsimp only at hSW)
    go_simp
  (try go_frame)
  refine wpAnyM_take (i := 1) (oi := ⟨some 20, _, _, _, _, _⟩) (v := (.bool true)) rfl (by kernel_rfl) (by kernel_rfl) (by kernel_rfl) (by kernel_rfl) (by decide) (fun _ _ _ h => h) (by assumption) (Or.inl ⟨by rfl, ?_⟩) ?_
  · intro W hSW
    (try dsimp only at hSW)
    go_simp
  (try go_frame)
  refine wpAnyM_take (i := 2) (oi := ⟨some 21, _, _, _, _, _⟩) (v := (.slice A1 l.length c1)) rfl (by kernel_rfl) (by kernel_rfl) (by kernel_rfl) (by kernel_rfl) (by decide) (fun _ _ _ h => h) (by assumption) (Or.inl ⟨by rfl, ?_⟩) ?_
  · intro W hSW
    (try dsimp only at hSW)
    go_simp
  (try go_frame)
  refine wpAnyM_take (i := 3) (oi := ⟨some 22, _, _, _, _, _⟩) (v := (.int .i64 l.length)) rfl (by kernel_rfl) (by kernel_rfl) (by kernel_rfl) (by kernel_rfl) (by decide) (fun _ _ _ h => h) (by assumption) (Or.inl ⟨by rfl, ?_⟩) ?_
  · intro W hSW
    (try dsimp only at hSW)
    go_simp
  (try go_frame)
  refine wpAnyM_take (i := 4) (oi := ⟨some 23, _, _, _, _, _⟩) (v := (.bool true)) rfl (by kernel_rfl) (by kernel_rfl) (by kernel_rfl) (by kernel_rfl) (by decide) (fun _ _ _ h => h) (by assumption) (Or.inl ⟨by rfl, ?_⟩) ?_
  · intro W hSW
    (try dsimp only at hSW)
    go_simp
  (try go_frame)
  refine wpAnyM_take (i := 5) (oi := ⟨some 24, _, _, _, _, _⟩) (v := (.bool true)) rfl (by kernel_rfl) (by kernel_rfl) (by kernel_rfl) (by kernel_rfl) (by decide) (fun _ _ _ h => h) (by assumption) (Or.inl ⟨by rfl, ?_⟩) ?_
  · intro W hSW
    (try dsimp only at hSW)
    go_simp
  (try go_frame)
  refine wpAnyM_take (i := 6) (oi := ⟨some 25, _, _, _, _, _⟩) (v := (.bool true)) rfl (by kernel_rfl) (by kernel_rfl) (by kernel_rfl) (by kernel_rfl) (by decide) (fun _ _ _ h => h) (by assumption) (Or.inl ⟨by rfl, ?_⟩) ?_
  · intro W hSW
    (try dsimp only at hSW)
    go_simp
  (try go_frame)
  refine wpAnyM_take (i := 7) (oi := ⟨some 26, _, _, _, _, _⟩) (v := (.slice A6 xs.length c6)) rfl (by kernel_rfl) (by kernel_rfl) (by kernel_rfl) (by kernel_rfl) (by decide) (fun _ _ _ h => h) (by assumption) (Or.inl ⟨by rfl, ?_⟩) ?_
  · intro W hSW
    (try dsimp only at hSW)
    go_simp
  (try go_frame)
  refine wpAnyM_take (i := 10) (oi := ⟨some 29, _, _, _, _, _⟩) (v := (.slice A1 l.length c1)) rfl (by kernel_rfl) (by kernel_rfl) (by kernel_rfl) (by kernel_rfl) (by decide) (fun _ _ _ h => h) (by assumption) (Or.inl ⟨by rfl, ?_⟩) ?_
  · intro W hSW
    (try dsimp only at hSW)
    go_simp
  (try go_frame)
  refine wpAnyM_take (i := 11) (oi := ⟨some 30, _, _, _, _, _⟩) (v := (.string ⟨l.toArray⟩)) rfl (by kernel_rfl) (by kernel_rfl) (by kernel_rfl) (by kernel_rfl) (by decide) (fun _ _ _ h => h) (by assumption) (Or.inl ⟨by rfl, ?_⟩) ?_
  · intro W hSW
    (try dsimp only at hSW)
    go_simp
  (try go_frame)
  refine wpAnyM_only (i := 8) (oi := ⟨some 27, _, _, _, _, _⟩) rfl (by kernel_rfl) (fun K hK => ?_)
  go_simp
  refine E6.out.mono ?_
  rintro e w7 ⟨v7, rfl, ho7, hb7⟩
  obtain ⟨A7, c7, rfl⟩ := own_form' ho7
  have hHeld7 := HC.out w7 ((Below.refl _ _).drew.trans hb7)
  have hcv := conv_own ho7
  have HBL := Lib.hid (HB6.out.trans (((Below.refl _ _).drew.trans hb7).mono HB6.out.size))
  clear ho7 hb7
  go_wp2_with fail
  refine hK.out _ _ (.inr hHeld7) ?_
  clear hK K
  (try go_frame)
  clear hHeld
  refine wpAnyM_only (i := 9) (oi := ⟨some 28, _, _, _, _, _⟩) rfl (by kernel_rfl) (fun K hK => ?_)
  go_simp
  refine hK.out _ _ (.inr hHeld7) ?_
  clear hK K
  (try go_frame)
  clear hcv
  refine wpAnyM_take (i := 12) (oi := ⟨some 31, _, _, _, _, _⟩) (v := (.bool true)) rfl (by kernel_rfl) (by kernel_rfl) (by kernel_rfl) (by kernel_rfl) (by decide) (fun _ _ _ h => h) (by assumption) (Or.inl ⟨by rfl, ?_⟩) ?_
  · intro W hSW
    (try dsimp only at hSW)
    go_simp
  (try go_frame)
  refine wpAnyM_take (i := 13) (oi := ⟨some 32, _, _, _, _, _⟩) (v := (.bool true)) rfl (by kernel_rfl) (by kernel_rfl) (by kernel_rfl) (by kernel_rfl) (by decide) (fun _ _ _ h => h) (by assumption) (Or.inl ⟨by rfl, ?_⟩) ?_
  · intro W hSW
    (try dsimp only at hSW)
    go_simp
  (try go_frame)
  refine wpAnyM_take (i := 14) (oi := ⟨some 2, _, _, _, _, _⟩) (v := (.bool true)) rfl (by kernel_rfl) (by kernel_rfl) (by kernel_rfl) (by kernel_rfl) (by decide) (fun _ _ _ h => h) (by assumption) (Or.inl ⟨by rfl, ?_⟩) ?_
  · intro W hSW
    (try dsimp only at hSW)
    go_simp
  (try go_frame)
  refine wpAnyM_done (by kernel_rfl) (NoPanic.normal ?_)
  clear hHeld7
  go_wp2_with fail
  go_ret
  exact ⟨rfl, HBL.out⟩
end Go.Proofs.YtanfimeajalffaaDoor
