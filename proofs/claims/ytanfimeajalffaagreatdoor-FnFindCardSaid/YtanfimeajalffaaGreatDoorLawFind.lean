/-
  FnFind: the law returns true, and leaves what was there. Conditions: packages as they lie in memory, a text, the package's error laid.
-/
import Derived.Test.YtanfimeajalffaaGreatDoorPlace
namespace Go.Proofs.YtanfimeajalffaaGreatDoor
open Go.RowKit
attribute [local go_sem ↓] Go.wp_at_zero Go.wp_at_succ

set_option maxHeartbeats 8000000 in
set_option maxRecDepth 100000 in
theorem fnFind_any (u : Value) (xs : List PkgD) (d : ByteArray) (ga oa : Nat) (w : World) (hl1 : xs.length ≤ 9223372036854775807) (hd1 : d.size ≤ 9223372036854775807) (hw1 : ∀ p ∈ xs, p.Wide) (hx : PkgsAt w w.heap.size u xs) (hC : Cannot w ga oa) :
    Calls Tryz.prog 4 #[u, .string d] w fun e w' => e = .returned (.bool true) ∧ Below w.heap.size w w' := by
  have hX := fun (W : World) (h : Below w.heap.size w W) => PkgsAt.below hx h
  have F1 := Lib.hid (fun (W : World) (h : Below w.heap.size w W) => fits1_any w.heap.size u xs W h.size hl1 hw1 (hX W h))
  have O1 := Lib.hid (fun (W : World) (h : Below w.heap.size w W) => indexOk_any w.heap.size u xs W h.size hl1 hw1 (hX W h))
  have E1 := Lib.hid (fun (W : World) (h : Below w.heap.size w W) (hok : PkgsOk xs) => encode_any w.heap.size u xs W h.size hok (hX W h))
  have P1 := Lib.hid (fun (W : World) (h : Below w.heap.size w W) => place_any w.heap.size u xs d W h.size hl1 (hX W h))
  have HX := Lib.hid hX
  have HW := Lib.hid hw1
  have HC := Lib.hid hC
  obtain ⟨A, c, rfl⟩ := ListAt.form hx
  have hb0 : Below w.heap.size w w := Below.refl _ _
  clear hx hX hw1 hC
  by_cases hbig : (2147483647 : Int) < (d.size : Int)
  · go_enter Tryz.func4, Tryz.ntmps4
    go_wp2_with fail
    refine (F1.out _ hb0).mono ?_
    rintro e w1 ⟨b1, rfl, hc1⟩
    have hb1 := hb0.trans (hc1.mono hb0.size)
    clear hc1
    cases b1
    all_goals
      go_wp2_with fail
      go_ret
      exact ⟨rfl, hb1⟩
  go_enter Tryz.func4, Tryz.ntmps4
  go_wp2_with fail
  refine (F1.out _ hb0).mono ?_
  rintro e w1 ⟨b1, rfl, hc1⟩
  have hb1 := hb0.trans (hc1.mono hb0.size)
  clear hc1
  cases b1
  case' false =>
    go_wp2_with fail
    go_ret
    exact ⟨rfl, hb1⟩
  go_wp2_with fail
  refine (O1.out _ hb1).mono ?_
  rintro e w3 ⟨b3, rfl, hc3, hs3⟩
  have hb3 := hb1.trans (hc3.mono hb1.size)
  have HS3 := Lib.hid hs3
  clear hc3 hs3
  cases b3
  case' false =>
    go_wp2_with fail
    go_ret
    exact ⟨rfl, hb3⟩
  have hp1 := (HS3.out (by simp)).1
  have HST := Lib.hid (HS3.out (by simp)).2
  have hl2 := hp1.len
  have HP := Lib.hid hp1
  have HIX := Lib.hid (enc_is xs hp1)
  have hpos := enc_pos xs hp1
  have D1 := Lib.hid (fun W h => E1.out W h hp1)
  have hp8 := hpos.2
  have SH := Lib.hid (short_any (w3.heap.size + 1) (.slice (some ⟨w3.heap.size, 0, none⟩) 1 1) [d] (w3.alloc (.cells #[.string d] 9)) (by simp) (strs_new w3 #[.string d] [d] 1 w3.heap.size rfl rfl rfl))
  have hb4 := hb3.alloc hb3.size (.cells #[.string d] 9)
  clear HS3 hp1 hpos hb0 hb1 hl1
  generalize enc xs = l at *
  generalize shortB [d] = sb at SH
  go_wp2_with fail
  refine SH.out.mono ?_
  rintro e w4 ⟨rfl, rfl⟩
  cases sb
  case' false =>
    go_wp2_with fail
    go_ret
    exact ⟨rfl, hb4⟩
  have D4 := Lib.hid (D1.out _ hb4)
  have HB4 := Lib.hid hb4
  clear hb4 hb3 D1 SH
  go_wp2_with fail
  refine D4.out.mono ?_
  rintro e w5 ⟨v1, rfl, ho1, hc5⟩
  have hb5 := HB4.out.trans (hc5.mono HB4.out.size)
  have HF := Lib.hid (implFind_ok v1 l xs d ga oa w5 (bs_of_own ho1) HIX.out hl2 HP.out.each HST.out (HC.out.below hb5) (by omega))
  obtain ⟨A1, c1, rfl⟩ := own_form' ho1
  have HB5 := Lib.hid hb5
  clear ho1 hc5 hb5 D4 HB4
  go_wp2_with fail
  refine HF.out.mono ?_
  rintro e w6 ⟨A6, c6, p, rfl, hpt, hb6, hits⟩
  obtain ⟨W7, HW7⟩ : ∃ W7, W7 = w6.alloc (.cells #[.string p.err, .string p.dir, .slice A6 p.files.length c6] 32) := ⟨_, rfl⟩
  have hb67 : Below w6.heap.size w6 W7 := by rw [HW7]; exact (Below.refl _ _).alloc (Nat.le_refl _) _
  have hp7 : Blk W7 w6.heap.size 32 #[.string p.err, .string p.dir, .slice A6 p.files.length c6] := by rw [HW7]; exact Blk.new _ _ _
  have hpr : PkgR W7 w6.heap.size [.string p.err, .string p.dir, .slice A6 p.files.length c6] p := (PkgT.r hpt).below hb67
  have hb7 := HB5.out.trans ((hb6.trans (hb67.mono hb6.size)).mono HB5.out.size)
  have HP7 := Lib.hid hp7
  have HPR := Lib.hid hpr
  have HB7 := Lib.hid hb7
  have HB6 := Lib.hid (HB5.out.trans (hb6.mono HB5.out.size))
  have HITS := Lib.hid hits
  have HW7' := Lib.hid HW7
  have P7 := Lib.hid (P1.out _ hb7)
  clear hpt hb6 hits hb67 hp7 hpr hb7 HW7 HF
  go_wp2_with fail
  rw [show w6.alloc (.cells #[.string p.err, .string p.dir, .slice A6 p.files.length c6] 32) = W7 from HW7'.out.symm]
  refine P7.out.mono ?_
  rintro e w8 ⟨hb8, hor⟩
  have hp8' := HP7.out.below hb8 HP7.out.lt
  have HB8 := Lib.hid (HB7.out.trans (hb8.mono HB7.out.size))
  rcases hor with ⟨rfl, hno⟩ | ⟨k, hk, rfl, hkd⟩
  · obtain rfl := HITS.out.none_ hno
    have c0 : w8.cell? ⟨w6.heap.size, 0, none⟩ = some (.string cannotS) := hp8'.cell 0
    have c2 : w8.cell? ⟨w6.heap.size, 2, none⟩ = some (.slice A6 0 c6) := hp8'.cell 2
    clear hno hp8' hb8 P7 HPR
    go_wp2_with fail
    go_ret
    exact ⟨by simp, HB8.out⟩
  · have hpk : p = xs[k] := HITS.out.at_ HST.out k hk hkd
    have hWp := HW.out _ (List.getElem_mem hk)
    have hpr8 := HPR.out.below (hb8.mono (by have := HP7.out.lt; omega))
    have hxs8 := HX.out w8 HB8.out
    obtain ⟨gl, ol, cs, rfl, hgl, _, hRk, hcell⟩ := hxs8.get (by omega) k hk
    have hRk2 := hRk
    obtain ⟨vf, rfl, hfs⟩ := hRk
    rw [← hpk] at hcell hfs hRk2 hWp
    have hk0 : (0 : Int) ≤ (k : Int) := by omega
    have hk1 : (k : Int) < (xs.length : Int) := by omega
    have hk2 : ¬ (k : Int) < 0 := by omega
    have c0 : w8.cell? ⟨gl, ol + k * 3, none⟩ = some (.string p.err) := hcell 0 _ rfl
    have c1 : w8.cell? ⟨gl, ol + k * 3 + 1, none⟩ = some (.string p.dir) := hcell 1 _ rfl
    have c2 : w8.cell? ⟨gl, ol + k * 3 + 2, none⟩ = some vf := hcell 2 _ rfl
    obtain ⟨Af, cf, rfl⟩ := hfs.form
    have h68 : w6.heap.size ≤ w8.heap.size := by have := hp8'.lt; omega
    have hw6 : w.heap.size ≤ w6.heap.size := HB6.out.size
    have S9 := Lib.hid (samePkg_any w6.heap.size [.string p.err, .string p.dir, .slice A6 p.files.length c6] [.string p.err, .string p.dir, .slice Af p.files.length cf] p p w8.drew h68 hWp (hpr8.below (Below.refl _ _).drew) ((hRk2.more hw6).below (Below.refl _ _).drew))
    have hS : Hid (∀ W, Below w8.heap.size w8 W → (∀ j, W.cell? ⟨w6.heap.size, j, none⟩ = (#[.string p.err, .string p.dir, .slice A6 p.files.length c6] : Array Value)[j]?) ∧ W.cell? ⟨gl, ol + k * 3, none⟩ = some (.string p.err) ∧ W.cell? ⟨gl, ol + k * 3 + 1, none⟩ = some (.string p.dir) ∧ W.cell? ⟨gl, ol + k * 3 + 2, none⟩ = some (.slice Af p.files.length cf)) :=
      Lib.hid fun W h => ⟨(hp8'.below h hp8'.lt).cell, (h.cell (p := ⟨gl, ol + k * 3, none⟩) (cell_lt c0)).trans c0, (h.cell (p := ⟨gl, ol + k * 3 + 1, none⟩) (cell_lt c1)).trans c1, (h.cell (p := ⟨gl, ol + k * 3 + 2, none⟩) (cell_lt c2)).trans c2⟩
    clear hpk hkd hcell hfs hRk2 hWp hpr8 hxs8 hp8' hb8 P7 c0 c1 c2
    go_wp2_with fail
    refine wp_region_m 99 (fun W => (∀ j, W.cell? ⟨w6.heap.size, j, none⟩ = (#[.string p.err, .string p.dir, .slice A6 p.files.length c6] : Array Value)[j]?) ∧ W.cell? ⟨gl, ol + k * 3, none⟩ = some (.string p.err) ∧ W.cell? ⟨gl, ol + k * 3 + 1, none⟩ = some (.string p.dir) ∧ W.cell? ⟨gl, ol + k * 3 + 2, none⟩ = some (.slice Af p.files.length cf)) (by kernel_rfl) ?_
    have hHeld := hS.out w8.drew (Below.refl _ _).drew
    refine wpAnyM_take (i := 0) (oi := ⟨some 49, _, _, _, _, _⟩) (v := (.bool true)) rfl (by kernel_rfl) (by kernel_rfl) (by kernel_rfl) (by kernel_rfl) (by decide) (fun _ _ _ h => h) (by assumption) (Or.inl ⟨by rfl, ?_⟩) ?_
    · intro W hSW
      (try dsimp only at hSW)
      go_simp
    (try go_frame)
    refine wpAnyM_take (i := 1) (oi := ⟨some 50, _, _, _, _, _⟩) (v := (.bool true)) rfl (by kernel_rfl) (by kernel_rfl) (by kernel_rfl) (by kernel_rfl) (by decide) (fun _ _ _ h => h) (by assumption) (Or.inl ⟨by rfl, ?_⟩) ?_
    · intro W hSW
      (try dsimp only at hSW)
      go_simp
    (try go_frame)
    refine wpAnyM_take (i := 2) (oi := ⟨some 51, _, _, _, _, _⟩) (v := (.agg #[.string p.err, .string p.dir, .slice A6 p.files.length c6])) rfl (by kernel_rfl) (by kernel_rfl) (by kernel_rfl) (by kernel_rfl) (by decide) (fun _ _ _ h => h) (by assumption) (Or.inl ⟨by rfl, ?_⟩) ?_
    · intro W hSW
      (try dsimp only at hSW)
      go_simp
    (try go_frame)
    refine wpAnyM_take (i := 3) (oi := ⟨some 52, _, _, _, _, _⟩) (v := (.slice (some ⟨gl, ol, none⟩) xs.length c)) rfl (by kernel_rfl) (by kernel_rfl) (by kernel_rfl) (by kernel_rfl) (by decide) (fun _ _ _ h => h) (by assumption) (Or.inl ⟨by rfl, ?_⟩) ?_
    · intro W hSW
      (try dsimp only at hSW)
      go_simp
    (try go_frame)
    refine wpAnyM_take (i := 4) (oi := ⟨some 53, _, _, _, _, _⟩) (v := (.int .i64 (k : Int))) rfl (by kernel_rfl) (by kernel_rfl) (by kernel_rfl) (by kernel_rfl) (by decide) (fun _ _ _ h => h) (by assumption) (Or.inl ⟨by rfl, ?_⟩) ?_
    · intro W hSW
      (try dsimp only at hSW)
      go_simp
    (try go_frame)
    refine wpAnyM_take (i := 5) (oi := ⟨some 54, _, _, _, _, _⟩) (v := (.pointer (some ⟨gl, ol + k * 3, none⟩))) rfl (by kernel_rfl) (by kernel_rfl) (by kernel_rfl) (by kernel_rfl) (by decide) (fun _ _ _ h => h) (by assumption) (Or.inl ⟨by rfl, ?_⟩) ?_
    · intro W hSW
      (try dsimp only at hSW)
      go_simp
    (try go_frame)
    refine wpAnyM_take (i := 6) (oi := ⟨some 55, _, _, _, _, _⟩) (v := (.agg #[.string p.err, .string p.dir, .slice Af p.files.length cf])) rfl (by kernel_rfl) (by kernel_rfl) (by kernel_rfl) (by kernel_rfl) (by decide) (fun _ _ _ h => h) (by assumption) (Or.inl ⟨by rfl, ?_⟩) ?_
    · intro W hSW
      (try dsimp only at hSW)
      go_simp
    (try go_frame)
    refine wpAnyM_only (i := 7) (oi := ⟨some 56, _, _, _, _, _⟩) rfl (by kernel_rfl) (fun K hK => ?_)
    go_simp
    refine S9.out.mono ?_
    rintro e w9 ⟨bb, rfl, hb9, hiff⟩
    have hbt : bb = true := by simpa using hiff
    subst hbt
    have hHeld9 := hS.out w9 ((Below.refl _ _).drew.trans hb9)
    have HB9 := Lib.hid (HB8.out.trans (((Below.refl _ _).drew.trans hb9).mono HB8.out.size))
    clear hiff hb9 S9
    go_wp2_with fail
    refine hK.out _ _ (.inr hHeld9) ?_
    clear hK K
    (try go_frame)
    clear hHeld
    refine wpAnyM_take (i := 8) (oi := ⟨some 57, _, _, _, _, _⟩) (v := (.bool true)) rfl (by kernel_rfl) (by kernel_rfl) (by kernel_rfl) (by kernel_rfl) (by decide) (fun _ _ _ h => h) (by assumption) (Or.inl ⟨by rfl, ?_⟩) ?_
    · intro W hSW
      (try dsimp only at hSW)
      go_simp
    (try go_frame)
    refine wpAnyM_take (i := 9) (oi := ⟨some 4, _, _, _, _, _⟩) (v := (.bool true)) rfl (by kernel_rfl) (by kernel_rfl) (by kernel_rfl) (by kernel_rfl) (by decide) (fun _ _ _ h => h) (by assumption) (Or.inl ⟨by rfl, ?_⟩) ?_
    · intro W hSW
      (try dsimp only at hSW)
      go_simp
    (try go_frame)
    refine wpAnyM_done (by kernel_rfl) (NoPanic.normal ?_)
    clear hHeld9
    go_wp2_with fail
    go_ret
    exact ⟨rfl, HB9.out⟩
end Go.Proofs.YtanfimeajalffaaGreatDoor
