/-
  FnGrown: the law returns true, and leaves what was there. Conditions: packages as they lie in memory, a package, the package's error laid.
-/
import Derived.Test.YtanfimeajalffaaGreatDoorGrownWords
namespace Go.Proofs.YtanfimeajalffaaGreatDoor
open Go.RowKit
attribute [local go_sem ↓] Go.wp_at_zero Go.wp_at_succ

theorem own_ge {w : World} {base n size : Nat} {t : TypeId} {v : Value} {xs : List Value} (h : w.ownsRow base t size v n xs) : ∀ j, v.ownBlock = some j → base ≤ j := by
  intro j hj
  rcases h.2 with ⟨rfl, _⟩ | ⟨g, cap, cur, rfl, hb, _⟩
  · simp [Value.ownBlock] at hj
  · simp [Value.ownBlock] at hj
    omega

set_option maxHeartbeats 8000000 in
set_option maxRecDepth 100000 in
theorem fnGrown_any (u : Value) (xs : List PkgD) (ms : List Value) (p : PkgD) (ga oa : Nat) (w : World) (hl1 : xs.length ≤ 9223372036854775807) (hw1 : ∀ p ∈ xs, p.Wide) (hx : PkgsAt w w.heap.size u xs) (hpw : p.Wide) (hp : PkgR w w.heap.size ms p) (hC : Cannot w ga oa) (hcap : ∀ A n c, u = .slice A n c → n ≤ c) :
    Calls Tryz.prog 5 #[u, .agg ms.toArray] w fun e w' => e = .returned (.bool true) ∧ Below w.heap.size w w' := by
  have hX := fun (W : World) (h : Below w.heap.size w W) => PkgsAt.below hx h
  have hP := fun (W : World) (h : Below w.heap.size w W) => hp.below h
  have F1 := Lib.hid (fun (W : World) (h : Below w.heap.size w W) => fits1_sound w.heap.size u xs W h.size hl1 hw1 (hX W h))
  have F2 := Lib.hid (fun (W : World) (h : Below w.heap.size w W) => fits2_any w.heap.size ms p W h.size hpw (hP W h))
  have O1 := Lib.hid (fun (W : World) (h : Below w.heap.size w W) => indexOk_any w.heap.size u xs W h.size hl1 hw1 (hX W h))
  have HX := Lib.hid hX
  have HPm := Lib.hid hP
  have HW := Lib.hid hw1
  have HPW := Lib.hid hpw
  have HC := Lib.hid hC
  obtain ⟨i1, hi1, hz3, hz4, hz5⟩ := info_parts' ipkg_info
  obtain ⟨A, c, rfl⟩ := ListAt.form hx
  have hlc := hcap _ _ _ rfl
  clear hcap
  obtain ⟨vf, rfl, hfs⟩ := hp
  obtain ⟨Af, cf, rfl⟩ := hfs.form
  obtain ⟨W0, HW0⟩ : ∃ W0, W0 = w.alloc (.cells #[.string p.err, .string p.dir, .slice Af p.files.length cf] 32) := ⟨_, rfl⟩
  have hb0 : Below w.heap.size w W0 := by rw [HW0]; exact (Below.refl _ _).alloc (Nat.le_refl _) _
  have hp0 : Blk W0 w.heap.size 32 #[.string p.err, .string p.dir, .slice Af p.files.length cf] := by rw [HW0]; exact Blk.new _ _ _
  have HB0 := Lib.hid hb0
  have HP0 := Lib.hid hp0
  have HWE := Lib.hid HW0
  clear hx hX hw1 hpw hP hC hfs hb0 hp0 HW0
  go_enter Tryz.func5, Tryz.ntmps5
  go_wp2_with fail
  rw [show w.alloc (.cells #[.string p.err, .string p.dir, .slice Af p.files.length cf] 32) = W0 from HWE.out.symm]
  refine (F1.out _ HB0.out).mono ?_
  rintro e w1 ⟨b1, rfl, hc1, hs1⟩
  have hp1 := HP0.out.below hc1 HP0.out.lt
  have hb1 := HB0.out.trans (hc1.mono HB0.out.size)
  have c0 : w1.cell? ⟨w.heap.size, 0, none⟩ = some (.string p.err) := hp1.cell 0
  have c1 : w1.cell? ⟨w.heap.size, 1, none⟩ = some (.string p.dir) := hp1.cell 1
  have c2 : w1.cell? ⟨w.heap.size, 2, none⟩ = some (.slice Af p.files.length cf) := hp1.cell 2
  have HP1 := Lib.hid hp1
  have HS1 := Lib.hid hs1
  clear hc1 hp1 hs1
  cases b1
  case' false =>
    go_wp2_with fail
    go_ret
    exact ⟨rfl, hb1⟩
  have hl0 : xs.length ≤ 2147483647 := HS1.out rfl
  clear HS1
  go_wp2_with fail
  refine (F2.out _ hb1).mono ?_
  rintro e w2 ⟨b2, rfl, hc2⟩
  have hp2 := HP1.out.below hc2 HP1.out.lt
  have hb2 := hb1.trans (hc2.mono hb1.size)
  have HP2 := Lib.hid hp2
  clear hc2 c0 c1 c2 hp2
  cases b2
  case' false =>
    go_wp2_with fail
    go_ret
    exact ⟨rfl, hb2⟩
  go_wp2_with fail
  obtain ⟨W3, HW3⟩ : ∃ W3, W3 = w2.alloc (.cells #[] 32) := ⟨_, rfl⟩
  have hb3 : Below w.heap.size w W3 := by rw [HW3]; exact hb2.alloc hb2.size _
  have hp3 : Blk W3 w.heap.size 32 #[.string p.err, .string p.dir, .slice Af p.files.length cf] := by rw [HW3]; exact HP2.out.alloc _
  have hown3 : W3.ownsRow w2.heap.size 32 3 (.slice (some ⟨w2.heap.size, 0, none⟩) 0 0) 0 [] := by rw [HW3]; exact World.ownsRow_made w2 #[] 0 (Nat.le_refl _) (by simp [maxLen]) rfl
  rw [← HW3]
  have HB3 := Lib.hid hb3
  have HP3 := Lib.hid hp3
  have HO3 := Lib.hid hown3
  have hsz2 := hb2.size
  have HSZ := Lib.hid (show w.heap.size < w2.heap.size from HP2.out.lt)
  clear HW3 hb3 hp3 hown3 hb1 hb2
  go_loopw [6] (fun i wr => ∃ k : Nat, k ≤ xs.length ∧ i = .int .i64 k ∧ ∃ j, wr = W3.drewN j) (fun i _ => xs.length - (intOf i).toNat)
  case atStart => exact ⟨0, Nat.zero_le _, rfl, 0, rfl⟩
  case round =>
    obtain ⟨k, hk, rfl, j, rfl⟩ := hrel
    have d1 : W3.cell? ⟨w.heap.size, 1, none⟩ = some (.string p.dir) := HP3.out.cell 1
    have d0 : W3.cell? ⟨w.heap.size, 0, none⟩ = some (.string p.err) := HP3.out.cell 0
    have d2 : W3.cell? ⟨w.heap.size, 2, none⟩ = some (.slice Af p.files.length cf) := HP3.out.cell 2
    by_cases hgo : ∃ h : k < xs.length, Op.bytesLess xs[k].dir.toList p.dir.toList = true
    · obtain ⟨hlt, hbl⟩ := hgo
      obtain ⟨gp, op, cs, rfl, hgp, _, hRk, hcell⟩ := (HX.out W3 HB3.out).get (by omega) k hlt
      obtain ⟨vk, rfl, hfk⟩ := hRk
      have c1 : W3.cell? ⟨gp, op + k * 3 + 1, none⟩ = some (.string xs[k].dir) := hcell 1 _ rfl
      have hk0 : (0 : Int) ≤ (k : Int) := by omega
      have hk1 : (k : Int) < (xs.length : Int) := by omega
      clear hcell hfk d0 d2
      generalize xs[k].dir = x at *
      go_wp2_with fail
      go_quiet (fail)
      go_wp2_with fail
      go_roundw
      case rel => exact ⟨k + 1, by omega, by go_num, _, rfl⟩
      case measure => simp [intOf]; omega
    · by_cases hlt : k < xs.length
      · obtain ⟨gp, op, cs, hA, hgp, _, hRk, hcell⟩ := (HX.out W3 HB3.out).get (by omega) k hlt
        obtain ⟨vk, rfl, hfk⟩ := hRk
        have c1 : W3.cell? ⟨gp, op + k * 3 + 1, none⟩ = some (.string xs[k].dir) := hcell 1 _ rfl
        have hk0 : (0 : Int) ≤ (k : Int) := by omega
        have hk1 : (k : Int) < (xs.length : Int) := by omega
        have hbl : Op.bytesLess xs[k].dir.toList p.dir.toList = false := by
          cases hv : Op.bytesLess xs[k].dir.toList p.dir.toList with
          | false => rfl
          | true => exact absurd ⟨hlt, hv⟩ hgo
        clear hcell hfk hgo d0 d2
        generalize xs[k].dir = x at *
        go_wp2_with fail
        go_quiet (fail)
        go_wp2_with fail
        (try rw [← hA])
        clear c1 hbl hk0 hk1 hA
        clear d1
        clear F1 F2 HB0 HP0 HP1 HP2 HWE
        obtain ⟨A', c', css, hv, hcl, hc3, hrd, hR⟩ := HX.out W3 HB3.out
        obtain ⟨rfl, rfl⟩ : A = A' ∧ c = c' := by injection hv with h1 _ h2; exact ⟨h1, h2⟩
        clear hv
        have hrun1 := head_run A xs.length c k (by omega)
        have hrun2 := tail_run A xs.length c k hk
        obtain ⟨At, hAt⟩ : ∃ At, At = (if c = k then A else A.map (·.add (k * 3))) := ⟨_, rfl⟩
        rw [← hAt] at hrun2
        have hfr := hrd.front hk
        have hct := hrd.cut hk hlc
        rw [← hAt] at hct
        have HFR := Lib.hid hfr
        have HCT := Lib.hid hct
        have HONE : Hid (∀ u ∈ css.flatten, u.oneCell' = true) := Lib.hid (pkgs_one hc3 hcl hR)
        have HCL := Lib.hid hcl
        have HC3 := Lib.hid hc3
        have HR := Lib.hid hR
        have HW3 := Lib.hid HB3.out
        clear hAt hrd hR hfr hct hcl hc3
        (try rw [World.drewN_drewN])
        generalize hD : W3.drewN _ = WD
        have hbD : Below w.heap.size w WD.drew := by rw [← hD]; exact (below_dn HB3.out _).drew
        have h3D : Below w.heap.size W3 WD.drew := by rw [← hD]; exact (below_dn (Below.refl _ _) _).drew
        have hpD : Blk WD.drew w.heap.size 32 #[.string p.err, .string p.dir, .slice Af p.files.length cf] := by rw [← hD]; exact HP3.out
        have hoD : WD.drew.ownsRow w2.heap.size 32 3 (.slice (some ⟨w2.heap.size, 0, none⟩) 0 0) 0 [] := by rw [← hD]; exact HO3.out
        have hfD : Reads WD.drew w.heap.size 3 A k (css.flatten.take (k * 3)) := by rw [← hD]; exact HFR.out
        have hcD : Reads WD.drew w.heap.size 3 At (xs.length - k) (css.flatten.drop (k * 3)) := by rw [← hD]; exact HCT.out
        have hwD : w2.heap.size < WD.drew.heap.size := by
          rcases hoD.2 with ⟨h, _⟩ | ⟨g, cap, cur, h, _, hg, _⟩
          · cases h
          · injection h with h
            injection h with h
            injection h with h
            rw [h]
            exact Blk.lt (t := 32) (cs := cur) hg
        have hsw : w.heap.size < w2.heap.size := HSZ.out
        have hHeld : ∀ j, WD.drew.cell? ⟨w.heap.size, j, none⟩ = (#[.string p.err, .string p.dir, .slice Af p.files.length cf] : Array Value)[j]? := hpD.cell
        have HBD := Lib.hid hbD
        have H3D := Lib.hid h3D
        have HPD := Lib.hid hpD
        have HOD := Lib.hid hoD
        have HFD := Lib.hid hfD
        have HCD := Lib.hid hcD
        clear hD hbD h3D hpD hoD hfD hcD HFR HCD HP3 HO3 HB3
        refine wp_region_m 99 (fun W => ∀ j, W.cell? ⟨w.heap.size, j, none⟩ = (#[.string p.err, .string p.dir, .slice Af p.files.length cf] : Array Value)[j]?) (by kernel_rfl) ?_
        refine wpAnyM_take (i := 0) (oi := ⟨some 39, _, _, _, _, _⟩) (v := (.slice (some ⟨w2.heap.size, 0, none⟩) 0 0)) rfl (by kernel_rfl) (by kernel_rfl) (by kernel_rfl) (by kernel_rfl) (by decide) (fun _ _ _ h => h) (by assumption) (Or.inl ⟨by rfl, ?_⟩) ?_
        · intro W hSW
          (try dsimp only at hSW)
          go_simp
        (try go_frame)
        refine wpAnyM_take (i := 1) (oi := ⟨some 40, _, _, _, _, _⟩) (v := (.slice A xs.length c)) rfl (by kernel_rfl) (by kernel_rfl) (by kernel_rfl) (by kernel_rfl) (by decide) (fun _ _ _ h => h) (by assumption) (Or.inl ⟨by rfl, ?_⟩) ?_
        · intro W hSW
          (try dsimp only at hSW)
          go_simp
        (try go_frame)
        refine wpAnyM_take (i := 2) (oi := ⟨some 41, _, _, _, _, _⟩) (v := (.int .i64 (k : Int))) rfl (by kernel_rfl) (by kernel_rfl) (by kernel_rfl) (by kernel_rfl) (by decide) (fun _ _ _ h => h) (by assumption) (Or.inl ⟨by rfl, ?_⟩) ?_
        · intro W hSW
          (try dsimp only at hSW)
          go_simp
        (try go_frame)
        refine wpAnyM_take (i := 3) (oi := ⟨some 42, _, _, _, _, _⟩) (v := (.slice A k c)) rfl (by kernel_rfl) (by kernel_rfl) (by kernel_rfl) (by kernel_rfl) (by decide) (fun _ _ _ h => h) (by assumption) (Or.inl ⟨by rfl, ?_⟩) ?_
        · intro W hSW
          (try dsimp only at hSW)
          go_simp
        (try go_frame)
        refine wpAnyM_take (i := 5) (oi := ⟨some 44, _, _, _, _, _⟩) (v := (.agg #[.string p.err, .string p.dir, .slice Af p.files.length cf])) rfl (by kernel_rfl) (by kernel_rfl) (by kernel_rfl) (by kernel_rfl) (by decide) (fun _ _ _ h => h) (by assumption) (Or.inl ⟨by rfl, ?_⟩) ?_
        · intro W hSW
          (try dsimp only at hSW)
          go_simp
        (try go_frame)
        refine wpAnyM_take (i := 8) (oi := ⟨some 47, _, _, _, _, _⟩) (v := (.slice A xs.length c)) rfl (by kernel_rfl) (by kernel_rfl) (by kernel_rfl) (by kernel_rfl) (by decide) (fun _ _ _ h => h) (by assumption) (Or.inl ⟨by rfl, ?_⟩) ?_
        · intro W hSW
          (try dsimp only at hSW)
          go_simp
        (try go_frame)
        refine wpAnyM_take (i := 9) (oi := ⟨some 48, _, _, _, _, _⟩) (v := (.int .i64 (k : Int))) rfl (by kernel_rfl) (by kernel_rfl) (by kernel_rfl) (by kernel_rfl) (by decide) (fun _ _ _ h => h) (by assumption) (Or.inl ⟨by rfl, ?_⟩) ?_
        · intro W hSW
          (try dsimp only at hSW)
          go_simp
        (try go_frame)
        refine wpAnyM_take (i := 10) (oi := ⟨some 49, _, _, _, _, _⟩) (v := (.slice At (xs.length - k) (c - k))) rfl (by kernel_rfl) (by kernel_rfl) (by kernel_rfl) (by kernel_rfl) (by decide) (fun _ _ _ h => h) (by assumption) (Or.inl ⟨by rfl, ?_⟩) ?_
        · intro W hSW
          (try dsimp only at hSW)
          go_simp
        (try go_frame)
        refine wpAnyM_two (i := 4) (j := 6) rfl rfl (by kernel_rfl) (fun K hK => ?oneP) (fun K hK => ?twoP)
        case' oneP =>
          refine step_append_any _ (by rfl) (.tmp 39) (.tmp 42) _ (by rfl) w2.heap.size 32 i1 _ 3 56 Tryz.underlying22 hi1 hz3 hz4 hz5 (by rfl) (by decide) (.slice (some ⟨w2.heap.size, 0, none⟩) 0 0) 0 [] (by rfl) HOD.out w.heap.size A k c (css.flatten.take (k * 3)) (by rfl) HFD.out (fun u hu => HONE.out u (List.mem_of_mem_take hu)) (by unfold maxLen; omega) (by omega) (by omega) ?_
          intro v1 w4 hown4 hg4 _
          rw [Nat.zero_add, List.nil_append] at hown4
          obtain ⟨A4, c4, rfl⟩ := own_form' hown4
          have hp4 := HPD.out.grown hg4 (fun e => by simp [Value.ownBlock] at e; omega)
          have hb4 := HBD.out.grown hg4 HBD.out.size (fun j hj => by simp [Value.ownBlock] at hj; omega)
          have h34 := H3D.out.grown hg4 HBD.out.size (fun j hj => by simp [Value.ownBlock] at hj; omega)
          have hHeld4 : ∀ j, w4.cell? ⟨w.heap.size, j, none⟩ = (#[.string p.err, .string p.dir, .slice Af p.files.length cf] : Array Value)[j]? := hp4.cell
          refine hK.out _ _ (.inr hHeld4) ?_
          clear hK K
          (try go_frame)
          clear hHeld
          refine wpAnyM_only (i := 6) (oi := ⟨some 45, _, _, _, _, _⟩) rfl (by kernel_rfl) (fun K hK => ?_)
          go_simp
          obtain ⟨W5, HW5⟩ : ∃ W5, W5 = w4.alloc (.cells #[.string p.err, .string p.dir, .slice Af p.files.length cf] 32) := ⟨_, rfl⟩
          obtain ⟨gs, hgs⟩ : ∃ gs, gs = w4.heap.size := ⟨_, rfl⟩
          rw [← HW5, ← hgs]
          have hq5 : Blk W5 gs 32 #[.string p.err, .string p.dir, .slice Af p.files.length cf] := by rw [HW5, hgs]; exact Blk.new _ _ _
          have hp5 : Blk W5 w.heap.size 32 #[.string p.err, .string p.dir, .slice Af p.files.length cf] := by rw [HW5]; exact hp4.alloc _
          have hb5 : Below w.heap.size w W5 := by rw [HW5]; exact hb4.alloc hb4.size _
          have h35 : Below w.heap.size W3 W5 := by rw [HW5]; exact h34.alloc hb4.size _
          have ho5 : W5.ownsRow w2.heap.size 32 3 (.slice A4 k c4) k (css.flatten.take (k * 3)) := by rw [HW5]; exact hown4.alloc _
          have hs5 : w2.heap.size < W5.heap.size := by rw [HW5]; have := hg4.size; simp; omega
          have hHeld5 : ∀ j, W5.cell? ⟨w.heap.size, j, none⟩ = (#[.string p.err, .string p.dir, .slice Af p.files.length cf] : Array Value)[j]? := hp5.cell
          refine hK.out _ _ (.inr hHeld5) ?_
          clear hK K
          (try go_frame)
          clear hHeld4 hg4 hown4 hp4 hb4 h34 HW5 hgs
        case' twoP =>
          go_simp
          have hqD := Blk.new WD.drew 32 #[.string p.err, .string p.dir, .slice Af p.files.length cf]
          have hpD := HPD.out.alloc (.cells #[.string p.err, .string p.dir, .slice Af p.files.length cf] 32)
          have hHeld4 : ∀ j, (WD.drew.alloc (.cells #[.string p.err, .string p.dir, .slice Af p.files.length cf] 32)).cell? ⟨w.heap.size, j, none⟩ = (#[.string p.err, .string p.dir, .slice Af p.files.length cf] : Array Value)[j]? := hpD.cell
          refine hK.out _ _ (.inr hHeld4) ?_
          clear hK K
          (try go_frame)
          clear hHeld
          refine wpAnyM_only (i := 4) (oi := ⟨some 43, _, _, _, _, _⟩) rfl (by kernel_rfl) (fun K hK => ?_)
          refine step_append_any _ (by rfl) (.tmp 39) (.tmp 42) _ (by rfl) w2.heap.size 32 i1 _ 3 56 Tryz.underlying22 hi1 hz3 hz4 hz5 (by rfl) (by decide) (.slice (some ⟨w2.heap.size, 0, none⟩) 0 0) 0 [] (by rfl) (HOD.out.alloc (.cells #[.string p.err, .string p.dir, .slice Af p.files.length cf] 32)) w.heap.size A k c (css.flatten.take (k * 3)) (by rfl) (HFD.out.alloc (by have := HBD.out.size; omega) (.cells #[.string p.err, .string p.dir, .slice Af p.files.length cf] 32)) (fun u hu => HONE.out u (List.mem_of_mem_take hu)) (by unfold maxLen; omega) (by omega) (by simp; simp at hwD; omega) ?_
          intro v1 W5 hown4 hg4 _
          rw [Nat.zero_add, List.nil_append] at hown4
          obtain ⟨A4, c4, rfl⟩ := own_form' hown4
          obtain ⟨gs, hgs⟩ : ∃ gs, gs = WD.heap.size := ⟨_, rfl⟩
          rw [← hgs]
          have hgD : gs = WD.drew.heap.size := hgs
          have hq5 : Blk W5 gs 32 #[.string p.err, .string p.dir, .slice Af p.files.length cf] := by rw [hgD]; exact hqD.grown hg4 (fun e => by simp [Value.ownBlock] at e; simp at hwD; omega)
          have hp5 := hpD.grown hg4 (fun e => by simp [Value.ownBlock] at e; omega)
          have hb5 := (HBD.out.alloc HBD.out.size (.cells #[.string p.err, .string p.dir, .slice Af p.files.length cf] 32)).grown hg4 (by have := HBD.out.size; simp; simp at this; omega) (fun j hj => by simp [Value.ownBlock] at hj; omega)
          have h35 := (H3D.out.alloc HBD.out.size (.cells #[.string p.err, .string p.dir, .slice Af p.files.length cf] 32)).grown hg4 (by have := HBD.out.size; simp; simp at this; omega) (fun j hj => by simp [Value.ownBlock] at hj; omega)
          have ho5 := hown4
          have hs5 : w2.heap.size < W5.heap.size := by have := hg4.size; simp at this; simp at hwD; omega
          have hHeld5 : ∀ j, W5.cell? ⟨w.heap.size, j, none⟩ = (#[.string p.err, .string p.dir, .slice Af p.files.length cf] : Array Value)[j]? := hp5.cell
          refine hK.out _ _ (.inr hHeld5) ?_
          clear hK K
          (try go_frame)
          clear hHeld4 hg4 hown4 hqD hpD hgs hgD
        all_goals
          have hge4 := own_ge ho5
          have hap5 := reads_blk hq5 1 3 (by rfl)
          clear HBD H3D HPD HOD HFD
          refine wpAnyM_only (i := 7) (oi := ⟨some 46, _, _, _, _, _⟩) rfl (by kernel_rfl) (fun K hK => ?_)
          refine step_append_any _ (by rfl) (.tmp 43) (.tmp 45) _ (by rfl) w2.heap.size 32 i1 _ 3 56 Tryz.underlying22 hi1 hz3 hz4 hz5 (by rfl) (by decide) (.slice A4 k c4) k (css.flatten.take (k * 3)) (by rfl) ho5 W5.heap.size (some ⟨gs, 0, none⟩) 1 1 _ (by rfl) hap5 (by intro u hu; simp at hu; rcases hu with rfl | rfl | rfl <;> rfl) (by unfold maxLen; omega) (by omega) (by omega) ?_
          intro v6 W6 hown6 hg6 _
          obtain ⟨A6, c6, rfl⟩ := own_form' hown6
          have hp6 := hp5.grown hg6 (fun e => by have := hge4 _ e.symm; omega)
          have hb6 := hb5.grown hg6 hb5.size (fun j hj => by have := hge4 _ hj; omega)
          have h36 := h35.grown hg6 hb5.size (fun j hj => by have := hge4 _ hj; omega)
          have hHeld6 : ∀ j, W6.cell? ⟨w.heap.size, j, none⟩ = (#[.string p.err, .string p.dir, .slice Af p.files.length cf] : Array Value)[j]? := hp6.cell
          have hs6 : w2.heap.size < W6.heap.size := Nat.lt_of_lt_of_le hs5 hg6.size
          refine hK.out _ _ (.inr hHeld6) ?_
          clear hK K
          (try go_frame)
          clear hHeld5 hg6 hap5 hge4 ho5 hq5 hp5 hb5 h35 hs5
          have hge6 := own_ge hown6
          have hcut6 := HCT.out.below h36
          refine wpAnyM_only (i := 11) (oi := ⟨some 50, _, _, _, _, _⟩) rfl (by kernel_rfl) (fun K hK => ?_)
          refine step_append_any _ (by rfl) (.tmp 46) (.tmp 49) _ (by rfl) w2.heap.size 32 i1 _ 3 56 Tryz.underlying22 hi1 hz3 hz4 hz5 (by rfl) (by decide) (.slice A6 (k + 1) c6) (k + 1) _ (by rfl) hown6 w.heap.size At (xs.length - k) (c - k) (css.flatten.drop (k * 3)) (by rfl) hcut6 (fun u hu => HONE.out u (List.mem_of_mem_drop hu)) (by unfold maxLen; omega) (by omega) (by omega) ?_
          intro v7 W7 hown7 hg7 _
          rw [show k + 1 + (xs.length - k) = xs.length + 1 from by omega] at hown7
          obtain ⟨A7, c7, rfl⟩ := own_form' hown7
          have hp7 := hp6.grown hg7 (fun e => by have := hge6 _ e.symm; omega)
          have hb7 := hb6.grown hg7 hb6.size (fun j hj => by have := hge6 _ hj; omega)
          have h37 := h36.grown hg7 hb6.size (fun j hj => by have := hge6 _ hj; omega)
          have hHeld7 : ∀ j, W7.cell? ⟨w.heap.size, j, none⟩ = (#[.string p.err, .string p.dir, .slice Af p.files.length cf] : Array Value)[j]? := hp7.cell
          refine hK.out _ _ (.inr hHeld7) ?_
          clear hK K
          (try go_frame)
          clear hHeld6 hg7 hge6 hcut6 hown6 hp6 hb6 h36 hs6
          refine wpAnyM_take (i := 12) (oi := ⟨some 5, _, _, _, _, _⟩) (v := (.slice A7 (xs.length + 1) c7)) rfl (by kernel_rfl) (by kernel_rfl) (by kernel_rfl) (by kernel_rfl) (by decide) (fun _ _ _ h => h) (by assumption) (Or.inl ⟨by rfl, ?_⟩) ?_
          · intro W hSW
            (try dsimp only at hSW)
            go_simp
          (try go_frame)
          refine wpAnyM_done (by kernel_rfl) (NoPanic.normal ?_)
          have hwh : PkgsAt W7 W7.heap.size (.slice A7 (xs.length + 1) c7) (xs.take k ++ p :: xs.drop k) := pkgs_whole (ms := [.string p.err, .string p.dir, .slice Af p.files.length cf]) hown7 HCL.out HC3.out (fun i cs x h1 h2 => (HR.out i cs x h1 h2).below h37) (HPm.out W7 hb7) rfl hk hb7.size
          have hlw : (xs.take k ++ p :: xs.drop k).length = xs.length + 1 := by simp; omega
          have hix : ∀ q ∈ xs, q ∈ xs.take k ++ p :: xs.drop k := by
            intro q hq
            rw [← List.take_append_drop k xs] at hq
            rcases List.mem_append.1 hq with h | h
            · exact List.mem_append_left _ h
            · exact List.mem_append_right _ (List.mem_cons_of_mem _ h)
          have hip : p ∈ xs.take k ++ p :: xs.drop k := List.mem_append_right _ (List.mem_cons_self ..)
          have hww : ∀ q ∈ xs.take k ++ p :: xs.drop k, q.Wide := by
            intro q hq
            rcases List.mem_append.1 hq with h | h
            · exact HW.out q (List.mem_of_mem_take h)
            · rcases List.mem_cons.1 h with h | h
              · rw [h]; exact HPW.out
              · exact HW.out q (List.mem_of_mem_drop h)
          generalize xs.take k ++ p :: xs.drop k = whole at *
          have HP7 := Lib.hid hp7
          have HWH := Lib.hid hwh
          have HIX' := Lib.hid hix
          have HIP := Lib.hid hip
          have HWW := Lib.hid hww
          clear hwh hix hip hww hHeld7 h37 hown7 hp7 HCL HC3 HR HONE HCT hrun1 hrun2
          go_wp2_with fail
          refine (O1.out _ hb7).mono ?_
          rintro e w8 ⟨b8, rfl, hc8, _⟩
          have hb8 := hb7.trans (hc8.mono hb7.size)
          cases b8
          case' false =>
            go_wp2_with fail
            go_ret
            exact ⟨rfl, hb8⟩
          have hl1' : whole.length ≤ 9223372036854775807 := by omega
          have O2 := Lib.hid (fun (W : World) (h : Below W7.heap.size W7 W) => indexOk_any W7.heap.size (.slice A7 (xs.length + 1) c7) whole W h.size hl1' HWW.out (PkgsAt.below HWH.out h))
          clear O1 hl1'
          go_wp2_with fail
          refine (O2.out _ hc8).mono ?_
          rintro e w9 ⟨b9, rfl, hc9, hs9⟩
          have hb9 := hb8.trans (hc9.mono hb8.size)
          have hd9 := hc8.trans (hc9.mono hc8.size)
          have HS9 := Lib.hid hs9
          clear hs9 hc9 hc8 O2
          cases b9
          case' false =>
            go_wp2_with fail
            go_ret
            exact ⟨rfl, hb9⟩
          have hpk := (HS9.out rfl).1
          have HST := Lib.hid (HS9.out rfl).2
          have hl2 := hpk.len
          have HPK := Lib.hid hpk
          have HIX := Lib.hid (enc_is whole hpk)
          have hpos := enc_pos whole hpk
          have hp0 := hpos.1
          have hp8 := hpos.2
          have D1 := Lib.hid (encode_any W7.heap.size (.slice A7 (xs.length + 1) c7) whole w9 hd9.size hpk (PkgsAt.below HWH.out hd9))
          clear HS9 hpk hpos
          generalize enc whole = l at *
          go_wp2_with fail
          refine D1.out.mono ?_
          rintro e w10 ⟨v1, rfl, ho1, hc10⟩
          have hb10 := hb9.trans (hc10.mono hb9.size)
          have hd10 := hd9.trans (hc10.mono hd9.size)
          obtain ⟨A1, c1, rfl⟩ := own_form' ho1
          have FI := Lib.hid (fun (W : World) (d : ByteArray) (h : Below w10.heap.size w10 W) => implFind_ok (.slice A1 l.length c1) l whole d ga oa W ((bs_of_own ho1).below h) HIX.out hl2 HPK.out.each HST.out (HC.out.below (hb10.trans (h.mono hb10.size))) (by omega))
          have HB10 := Lib.hid hb10
          have hp10 := HP7.out.below hd10 HP7.out.lt
          have HP10 := Lib.hid hp10
          clear ho1 hc10 D1 hb10 hd10 hp10 hd9 hb9 hb8 hb7 HWH HWW HP7
          go_wp2_with fail
          go_loopw [63] (fun i wr => ∃ k : Nat, k ≤ xs.length ∧ i = .int .i64 k ∧ Below w10.heap.size w10 wr) (fun i _ => xs.length - (intOf i).toNat)
          case' atStart => exact ⟨0, Nat.zero_le _, rfl, Below.refl _ _⟩
          case' round =>
            obtain ⟨k', hk', rfl, hF⟩ := hrel
            have hsz := hF.size
            have hFw := HB10.out.trans (hF.mono HB10.out.size)
            have hsz0 := hFw.size
            by_cases hlt : k' < xs.length
            · obtain ⟨gp, op, cs, rfl, hgp, _, hRk, hcell⟩ := (HX.out wr hFw).get (by omega) k' hlt
              have hRk2 := hRk
              obtain ⟨vq, rfl, hfq⟩ := hRk
              have d0 : wr.cell? ⟨gp, op + k' * 3, none⟩ = some (.string xs[k'].err) := hcell 0 _ rfl
              have d1 : wr.cell? ⟨gp, op + k' * 3 + 1, none⟩ = some (.string xs[k'].dir) := hcell 1 _ rfl
              have d2 : wr.cell? ⟨gp, op + k' * 3 + 2, none⟩ = some vq := hcell 2 _ rfl
              obtain ⟨Aq, cq, rfl⟩ := hfq.form
              have hmem := List.getElem_mem hlt
              have hWp := HW.out _ hmem
              have HME := Lib.hid (HIX'.out _ hmem)
              have HRK := Lib.hid hRk2
              clear hcell hfq hRk2 hmem
              generalize xs[k'] = r at *
              obtain ⟨Wa, HWa⟩ : ∃ Wa, Wa = wr.alloc (.cells #[.string r.err, .string r.dir, .slice Aq r.files.length cq] 32) := ⟨_, rfl⟩
              have hba : Below wr.heap.size wr Wa := by rw [HWa]; exact (Below.refl _ _).alloc (Nat.le_refl _) _
              have hpa : Blk Wa wr.heap.size 32 #[.string r.err, .string r.dir, .slice Aq r.files.length cq] := by rw [HWa]; exact Blk.new _ _ _
              have hFa := hF.trans (hba.mono hsz)
              have CF := Lib.hid (FI.out Wa r.dir hFa)
              have HFa := Lib.hid hFa
              have HPa := Lib.hid hpa
              have HBa := Lib.hid hba
              have HWE := Lib.hid HWa
              clear hba hpa hFa HWa
              go_wp2_with fail
              rw [show wr.alloc (.cells #[.string r.err, .string r.dir, .slice Aq r.files.length cq] 32) = Wa from HWE.out.symm]
              refine CF.out.mono ?_
              rintro e wb ⟨Ab, cb, q, rfl, hpt, hbb, hits⟩
              obtain rfl := hits.self HST.out HME.out
              obtain ⟨Wc, HWc⟩ : ∃ Wc, Wc = wb.alloc (.cells #[.string q.err, .string q.dir, .slice Ab q.files.length cb] 32) := ⟨_, rfl⟩
              have hbc : Below wb.heap.size wb Wc := by rw [HWc]; exact (Below.refl _ _).alloc (Nat.le_refl _) _
              have hpc : Blk Wc wb.heap.size 32 #[.string q.err, .string q.dir, .slice Ab q.files.length cb] := by rw [HWc]; exact Blk.new _ _ _
              have hac := hbb.trans (hbc.mono hbb.size)
              have hsb : wr.heap.size < wb.heap.size := Nat.lt_of_lt_of_le HPa.out.lt hbb.size
              have hqb := HPa.out.below hbb HPa.out.lt
              have e0 : wb.cell? ⟨wr.heap.size, 0, none⟩ = some (.string q.err) := hqb.cell 0
              have e1 : wb.cell? ⟨wr.heap.size, 1, none⟩ = some (.string q.dir) := hqb.cell 1
              have e2 : wb.cell? ⟨wr.heap.size, 2, none⟩ = some (.slice Aq q.files.length cq) := hqb.cell 2
              have hFc := HFa.out.trans (hac.mono HFa.out.size)
              have hkc : PkgR Wc wb.heap.size [.string q.err, .string q.dir, .slice Aq q.files.length cq] q := (HRK.out.below ((HBa.out.trans (hac.mono HBa.out.size)).mono hsz0)).more (by omega)
              have SC := Lib.hid (samePkg_any wb.heap.size [.string q.err, .string q.dir, .slice Ab q.files.length cb] [.string q.err, .string q.dir, .slice Aq q.files.length cq] q q Wc hbc.size hWp ((PkgT.r hpt).below hbc) hkc)
              have HFc := Lib.hid hFc
              have HWEc := Lib.hid HWc
              clear hpt hbb hits hbc hpc hac hqb hFc hkc HWc CF d0 d1 d2
              go_wp2_with fail
              rw [show wb.alloc (.cells #[.string q.err, .string q.dir, .slice Ab q.files.length cb] 32) = Wc from HWEc.out.symm]
              refine SC.out.mono ?_
              rintro e wd ⟨bb, rfl, hbd, hiff⟩
              have hbt : bb = true := by simpa using hiff
              subst hbt
              have HFd := Lib.hid (HFc.out.trans (hbd.mono HFc.out.size))
              clear hbd hiff
              go_wp2_with fail
              go_roundw
              case' rel => exact ⟨k' + 1, by omega, by go_num, HFd.out⟩
              case' measure => simp [intOf]; omega
            · have hpr := HP10.out.below hF HP10.out.lt
              have d0 : wr.cell? ⟨w.heap.size, 0, none⟩ = some (.string p.err) := hpr.cell 0
              have d1 : wr.cell? ⟨w.heap.size, 1, none⟩ = some (.string p.dir) := hpr.cell 1
              have d2 : wr.cell? ⟨w.heap.size, 2, none⟩ = some (.slice Af p.files.length cf) := hpr.cell 2
              have CF := Lib.hid (FI.out wr p.dir hF)
              have HFw := Lib.hid hFw
              have HPR := Lib.hid hpr
              clear hFw hpr
              go_wp2_with fail
              refine CF.out.mono ?_
              rintro e wb ⟨Ab, cb, q, rfl, hpt, hbb, hits⟩
              obtain hqp := hits.self HST.out HIP.out
              rw [hqp] at hpt ⊢
              clear hqp hits
              obtain ⟨Wc, HWc⟩ : ∃ Wc, Wc = wb.alloc (.cells #[.string p.err, .string p.dir, .slice Ab p.files.length cb] 32) := ⟨_, rfl⟩
              have hbc : Below wb.heap.size wb Wc := by rw [HWc]; exact (Below.refl _ _).alloc (Nat.le_refl _) _
              have hpc : Blk Wc wb.heap.size 32 #[.string p.err, .string p.dir, .slice Ab p.files.length cb] := by rw [HWc]; exact Blk.new _ _ _
              have hqb := HPR.out.below hbb HPR.out.lt
              have hltb := hqb.lt
              have e0 : wb.cell? ⟨w.heap.size, 0, none⟩ = some (.string p.err) := hqb.cell 0
              have e1 : wb.cell? ⟨w.heap.size, 1, none⟩ = some (.string p.dir) := hqb.cell 1
              have e2 : wb.cell? ⟨w.heap.size, 2, none⟩ = some (.slice Af p.files.length cf) := hqb.cell 2
              have hFb := HFw.out.trans (hbb.mono hsz0)
              have hFc := hFb.trans (hbc.mono hFb.size)
              have hkc : PkgR Wc wb.heap.size [.string p.err, .string p.dir, .slice Af p.files.length cf] p := (HPm.out Wc hFc).more hFb.size
              have SC := Lib.hid (samePkg_any wb.heap.size [.string p.err, .string p.dir, .slice Ab p.files.length cb] [.string p.err, .string p.dir, .slice Af p.files.length cf] p p Wc hbc.size HPW.out ((PkgT.r hpt).below hbc) hkc)
              have HFc := Lib.hid hFc
              have HWEc := Lib.hid HWc
              clear hpt hbb hbc hpc hqb hFb hFc hkc HWc CF d0 d1 d2
              go_wp2_with fail
              rw [show wb.alloc (.cells #[.string p.err, .string p.dir, .slice Ab p.files.length cb] 32) = Wc from HWEc.out.symm]
              refine SC.out.mono ?_
              rintro e wd ⟨bb, rfl, hbd, hiff⟩
              have hbt : bb = true := by simpa using hiff
              subst hbt
              have HBL := Lib.hid (HFc.out.trans (hbd.mono HFc.out.size))
              clear hbd hiff
              go_wp2_with fail
              go_ret
              exact ⟨rfl, HBL.out⟩
      · have hge : ¬ (k : Int) < (xs.length : Int) := by omega
        have hge2 : decide (k < xs.length) = false := by simpa using hlt
        clear hgo d0 d1 d2
        go_wp2_with fail
        go_quiet (fail)
        go_wp2_with fail
        clear hge hge2
        clear F1 F2 HB0 HP0 HP1 HP2 HWE
        obtain ⟨A', c', css, hv, hcl, hc3, hrd, hR⟩ := HX.out W3 HB3.out
        obtain ⟨rfl, rfl⟩ : A = A' ∧ c = c' := by injection hv with h1 _ h2; exact ⟨h1, h2⟩
        clear hv
        have hrun1 := head_run A xs.length c k (by omega)
        have hrun2 := tail_run A xs.length c k hk
        obtain ⟨At, hAt⟩ : ∃ At, At = (if c = k then A else A.map (·.add (k * 3))) := ⟨_, rfl⟩
        rw [← hAt] at hrun2
        have hfr := hrd.front hk
        have hct := hrd.cut hk hlc
        rw [← hAt] at hct
        have HFR := Lib.hid hfr
        have HCT := Lib.hid hct
        have HONE : Hid (∀ u ∈ css.flatten, u.oneCell' = true) := Lib.hid (pkgs_one hc3 hcl hR)
        have HCL := Lib.hid hcl
        have HC3 := Lib.hid hc3
        have HR := Lib.hid hR
        have HW3 := Lib.hid HB3.out
        clear hAt hrd hR hfr hct hcl hc3
        (try rw [World.drewN_drewN])
        generalize hD : W3.drewN _ = WD
        have hbD : Below w.heap.size w WD.drew := by rw [← hD]; exact (below_dn HB3.out _).drew
        have h3D : Below w.heap.size W3 WD.drew := by rw [← hD]; exact (below_dn (Below.refl _ _) _).drew
        have hpD : Blk WD.drew w.heap.size 32 #[.string p.err, .string p.dir, .slice Af p.files.length cf] := by rw [← hD]; exact HP3.out
        have hoD : WD.drew.ownsRow w2.heap.size 32 3 (.slice (some ⟨w2.heap.size, 0, none⟩) 0 0) 0 [] := by rw [← hD]; exact HO3.out
        have hfD : Reads WD.drew w.heap.size 3 A k (css.flatten.take (k * 3)) := by rw [← hD]; exact HFR.out
        have hcD : Reads WD.drew w.heap.size 3 At (xs.length - k) (css.flatten.drop (k * 3)) := by rw [← hD]; exact HCT.out
        have hwD : w2.heap.size < WD.drew.heap.size := by
          rcases hoD.2 with ⟨h, _⟩ | ⟨g, cap, cur, h, _, hg, _⟩
          · cases h
          · injection h with h
            injection h with h
            injection h with h
            rw [h]
            exact Blk.lt (t := 32) (cs := cur) hg
        have hsw : w.heap.size < w2.heap.size := HSZ.out
        have hHeld : ∀ j, WD.drew.cell? ⟨w.heap.size, j, none⟩ = (#[.string p.err, .string p.dir, .slice Af p.files.length cf] : Array Value)[j]? := hpD.cell
        have HBD := Lib.hid hbD
        have H3D := Lib.hid h3D
        have HPD := Lib.hid hpD
        have HOD := Lib.hid hoD
        have HFD := Lib.hid hfD
        have HCD := Lib.hid hcD
        clear hD hbD h3D hpD hoD hfD hcD HFR HCD HP3 HO3 HB3
        refine wp_region_m 99 (fun W => ∀ j, W.cell? ⟨w.heap.size, j, none⟩ = (#[.string p.err, .string p.dir, .slice Af p.files.length cf] : Array Value)[j]?) (by kernel_rfl) ?_
        refine wpAnyM_take (i := 0) (oi := ⟨some 39, _, _, _, _, _⟩) (v := (.slice (some ⟨w2.heap.size, 0, none⟩) 0 0)) rfl (by kernel_rfl) (by kernel_rfl) (by kernel_rfl) (by kernel_rfl) (by decide) (fun _ _ _ h => h) (by assumption) (Or.inl ⟨by rfl, ?_⟩) ?_
        · intro W hSW
          (try dsimp only at hSW)
          go_simp
        (try go_frame)
        refine wpAnyM_take (i := 1) (oi := ⟨some 40, _, _, _, _, _⟩) (v := (.slice A xs.length c)) rfl (by kernel_rfl) (by kernel_rfl) (by kernel_rfl) (by kernel_rfl) (by decide) (fun _ _ _ h => h) (by assumption) (Or.inl ⟨by rfl, ?_⟩) ?_
        · intro W hSW
          (try dsimp only at hSW)
          go_simp
        (try go_frame)
        refine wpAnyM_take (i := 2) (oi := ⟨some 41, _, _, _, _, _⟩) (v := (.int .i64 (k : Int))) rfl (by kernel_rfl) (by kernel_rfl) (by kernel_rfl) (by kernel_rfl) (by decide) (fun _ _ _ h => h) (by assumption) (Or.inl ⟨by rfl, ?_⟩) ?_
        · intro W hSW
          (try dsimp only at hSW)
          go_simp
        (try go_frame)
        refine wpAnyM_take (i := 3) (oi := ⟨some 42, _, _, _, _, _⟩) (v := (.slice A k c)) rfl (by kernel_rfl) (by kernel_rfl) (by kernel_rfl) (by kernel_rfl) (by decide) (fun _ _ _ h => h) (by assumption) (Or.inl ⟨by rfl, ?_⟩) ?_
        · intro W hSW
          (try dsimp only at hSW)
          go_simp
        (try go_frame)
        refine wpAnyM_take (i := 5) (oi := ⟨some 44, _, _, _, _, _⟩) (v := (.agg #[.string p.err, .string p.dir, .slice Af p.files.length cf])) rfl (by kernel_rfl) (by kernel_rfl) (by kernel_rfl) (by kernel_rfl) (by decide) (fun _ _ _ h => h) (by assumption) (Or.inl ⟨by rfl, ?_⟩) ?_
        · intro W hSW
          (try dsimp only at hSW)
          go_simp
        (try go_frame)
        refine wpAnyM_take (i := 8) (oi := ⟨some 47, _, _, _, _, _⟩) (v := (.slice A xs.length c)) rfl (by kernel_rfl) (by kernel_rfl) (by kernel_rfl) (by kernel_rfl) (by decide) (fun _ _ _ h => h) (by assumption) (Or.inl ⟨by rfl, ?_⟩) ?_
        · intro W hSW
          (try dsimp only at hSW)
          go_simp
        (try go_frame)
        refine wpAnyM_take (i := 9) (oi := ⟨some 48, _, _, _, _, _⟩) (v := (.int .i64 (k : Int))) rfl (by kernel_rfl) (by kernel_rfl) (by kernel_rfl) (by kernel_rfl) (by decide) (fun _ _ _ h => h) (by assumption) (Or.inl ⟨by rfl, ?_⟩) ?_
        · intro W hSW
          (try dsimp only at hSW)
          go_simp
        (try go_frame)
        refine wpAnyM_take (i := 10) (oi := ⟨some 49, _, _, _, _, _⟩) (v := (.slice At (xs.length - k) (c - k))) rfl (by kernel_rfl) (by kernel_rfl) (by kernel_rfl) (by kernel_rfl) (by decide) (fun _ _ _ h => h) (by assumption) (Or.inl ⟨by rfl, ?_⟩) ?_
        · intro W hSW
          (try dsimp only at hSW)
          go_simp
        (try go_frame)
        refine wpAnyM_two (i := 4) (j := 6) rfl rfl (by kernel_rfl) (fun K hK => ?oneN) (fun K hK => ?twoN)
        case' oneN =>
          refine step_append_any _ (by rfl) (.tmp 39) (.tmp 42) _ (by rfl) w2.heap.size 32 i1 _ 3 56 Tryz.underlying22 hi1 hz3 hz4 hz5 (by rfl) (by decide) (.slice (some ⟨w2.heap.size, 0, none⟩) 0 0) 0 [] (by rfl) HOD.out w.heap.size A k c (css.flatten.take (k * 3)) (by rfl) HFD.out (fun u hu => HONE.out u (List.mem_of_mem_take hu)) (by unfold maxLen; omega) (by omega) (by omega) ?_
          intro v1 w4 hown4 hg4 _
          rw [Nat.zero_add, List.nil_append] at hown4
          obtain ⟨A4, c4, rfl⟩ := own_form' hown4
          have hp4 := HPD.out.grown hg4 (fun e => by simp [Value.ownBlock] at e; omega)
          have hb4 := HBD.out.grown hg4 HBD.out.size (fun j hj => by simp [Value.ownBlock] at hj; omega)
          have h34 := H3D.out.grown hg4 HBD.out.size (fun j hj => by simp [Value.ownBlock] at hj; omega)
          have hHeld4 : ∀ j, w4.cell? ⟨w.heap.size, j, none⟩ = (#[.string p.err, .string p.dir, .slice Af p.files.length cf] : Array Value)[j]? := hp4.cell
          refine hK.out _ _ (.inr hHeld4) ?_
          clear hK K
          (try go_frame)
          clear hHeld
          refine wpAnyM_only (i := 6) (oi := ⟨some 45, _, _, _, _, _⟩) rfl (by kernel_rfl) (fun K hK => ?_)
          go_simp
          obtain ⟨W5, HW5⟩ : ∃ W5, W5 = w4.alloc (.cells #[.string p.err, .string p.dir, .slice Af p.files.length cf] 32) := ⟨_, rfl⟩
          obtain ⟨gs, hgs⟩ : ∃ gs, gs = w4.heap.size := ⟨_, rfl⟩
          rw [← HW5, ← hgs]
          have hq5 : Blk W5 gs 32 #[.string p.err, .string p.dir, .slice Af p.files.length cf] := by rw [HW5, hgs]; exact Blk.new _ _ _
          have hp5 : Blk W5 w.heap.size 32 #[.string p.err, .string p.dir, .slice Af p.files.length cf] := by rw [HW5]; exact hp4.alloc _
          have hb5 : Below w.heap.size w W5 := by rw [HW5]; exact hb4.alloc hb4.size _
          have h35 : Below w.heap.size W3 W5 := by rw [HW5]; exact h34.alloc hb4.size _
          have ho5 : W5.ownsRow w2.heap.size 32 3 (.slice A4 k c4) k (css.flatten.take (k * 3)) := by rw [HW5]; exact hown4.alloc _
          have hs5 : w2.heap.size < W5.heap.size := by rw [HW5]; have := hg4.size; simp; omega
          have hHeld5 : ∀ j, W5.cell? ⟨w.heap.size, j, none⟩ = (#[.string p.err, .string p.dir, .slice Af p.files.length cf] : Array Value)[j]? := hp5.cell
          refine hK.out _ _ (.inr hHeld5) ?_
          clear hK K
          (try go_frame)
          clear hHeld4 hg4 hown4 hp4 hb4 h34 HW5 hgs
        case' twoN =>
          go_simp
          have hqD := Blk.new WD.drew 32 #[.string p.err, .string p.dir, .slice Af p.files.length cf]
          have hpD := HPD.out.alloc (.cells #[.string p.err, .string p.dir, .slice Af p.files.length cf] 32)
          have hHeld4 : ∀ j, (WD.drew.alloc (.cells #[.string p.err, .string p.dir, .slice Af p.files.length cf] 32)).cell? ⟨w.heap.size, j, none⟩ = (#[.string p.err, .string p.dir, .slice Af p.files.length cf] : Array Value)[j]? := hpD.cell
          refine hK.out _ _ (.inr hHeld4) ?_
          clear hK K
          (try go_frame)
          clear hHeld
          refine wpAnyM_only (i := 4) (oi := ⟨some 43, _, _, _, _, _⟩) rfl (by kernel_rfl) (fun K hK => ?_)
          refine step_append_any _ (by rfl) (.tmp 39) (.tmp 42) _ (by rfl) w2.heap.size 32 i1 _ 3 56 Tryz.underlying22 hi1 hz3 hz4 hz5 (by rfl) (by decide) (.slice (some ⟨w2.heap.size, 0, none⟩) 0 0) 0 [] (by rfl) (HOD.out.alloc (.cells #[.string p.err, .string p.dir, .slice Af p.files.length cf] 32)) w.heap.size A k c (css.flatten.take (k * 3)) (by rfl) (HFD.out.alloc (by have := HBD.out.size; omega) (.cells #[.string p.err, .string p.dir, .slice Af p.files.length cf] 32)) (fun u hu => HONE.out u (List.mem_of_mem_take hu)) (by unfold maxLen; omega) (by omega) (by simp; simp at hwD; omega) ?_
          intro v1 W5 hown4 hg4 _
          rw [Nat.zero_add, List.nil_append] at hown4
          obtain ⟨A4, c4, rfl⟩ := own_form' hown4
          obtain ⟨gs, hgs⟩ : ∃ gs, gs = WD.heap.size := ⟨_, rfl⟩
          rw [← hgs]
          have hgD : gs = WD.drew.heap.size := hgs
          have hq5 : Blk W5 gs 32 #[.string p.err, .string p.dir, .slice Af p.files.length cf] := by rw [hgD]; exact hqD.grown hg4 (fun e => by simp [Value.ownBlock] at e; simp at hwD; omega)
          have hp5 := hpD.grown hg4 (fun e => by simp [Value.ownBlock] at e; omega)
          have hb5 := (HBD.out.alloc HBD.out.size (.cells #[.string p.err, .string p.dir, .slice Af p.files.length cf] 32)).grown hg4 (by have := HBD.out.size; simp; simp at this; omega) (fun j hj => by simp [Value.ownBlock] at hj; omega)
          have h35 := (H3D.out.alloc HBD.out.size (.cells #[.string p.err, .string p.dir, .slice Af p.files.length cf] 32)).grown hg4 (by have := HBD.out.size; simp; simp at this; omega) (fun j hj => by simp [Value.ownBlock] at hj; omega)
          have ho5 := hown4
          have hs5 : w2.heap.size < W5.heap.size := by have := hg4.size; simp at this; simp at hwD; omega
          have hHeld5 : ∀ j, W5.cell? ⟨w.heap.size, j, none⟩ = (#[.string p.err, .string p.dir, .slice Af p.files.length cf] : Array Value)[j]? := hp5.cell
          refine hK.out _ _ (.inr hHeld5) ?_
          clear hK K
          (try go_frame)
          clear hHeld4 hg4 hown4 hqD hpD hgs hgD
        all_goals
          have hge4 := own_ge ho5
          have hap5 := reads_blk hq5 1 3 (by rfl)
          clear HBD H3D HPD HOD HFD
          refine wpAnyM_only (i := 7) (oi := ⟨some 46, _, _, _, _, _⟩) rfl (by kernel_rfl) (fun K hK => ?_)
          refine step_append_any _ (by rfl) (.tmp 43) (.tmp 45) _ (by rfl) w2.heap.size 32 i1 _ 3 56 Tryz.underlying22 hi1 hz3 hz4 hz5 (by rfl) (by decide) (.slice A4 k c4) k (css.flatten.take (k * 3)) (by rfl) ho5 W5.heap.size (some ⟨gs, 0, none⟩) 1 1 _ (by rfl) hap5 (by intro u hu; simp at hu; rcases hu with rfl | rfl | rfl <;> rfl) (by unfold maxLen; omega) (by omega) (by omega) ?_
          intro v6 W6 hown6 hg6 _
          obtain ⟨A6, c6, rfl⟩ := own_form' hown6
          have hp6 := hp5.grown hg6 (fun e => by have := hge4 _ e.symm; omega)
          have hb6 := hb5.grown hg6 hb5.size (fun j hj => by have := hge4 _ hj; omega)
          have h36 := h35.grown hg6 hb5.size (fun j hj => by have := hge4 _ hj; omega)
          have hHeld6 : ∀ j, W6.cell? ⟨w.heap.size, j, none⟩ = (#[.string p.err, .string p.dir, .slice Af p.files.length cf] : Array Value)[j]? := hp6.cell
          have hs6 : w2.heap.size < W6.heap.size := Nat.lt_of_lt_of_le hs5 hg6.size
          refine hK.out _ _ (.inr hHeld6) ?_
          clear hK K
          (try go_frame)
          clear hHeld5 hg6 hap5 hge4 ho5 hq5 hp5 hb5 h35 hs5
          have hge6 := own_ge hown6
          have hcut6 := HCT.out.below h36
          refine wpAnyM_only (i := 11) (oi := ⟨some 50, _, _, _, _, _⟩) rfl (by kernel_rfl) (fun K hK => ?_)
          refine step_append_any _ (by rfl) (.tmp 46) (.tmp 49) _ (by rfl) w2.heap.size 32 i1 _ 3 56 Tryz.underlying22 hi1 hz3 hz4 hz5 (by rfl) (by decide) (.slice A6 (k + 1) c6) (k + 1) _ (by rfl) hown6 w.heap.size At (xs.length - k) (c - k) (css.flatten.drop (k * 3)) (by rfl) hcut6 (fun u hu => HONE.out u (List.mem_of_mem_drop hu)) (by unfold maxLen; omega) (by omega) (by omega) ?_
          intro v7 W7 hown7 hg7 _
          rw [show k + 1 + (xs.length - k) = xs.length + 1 from by omega] at hown7
          obtain ⟨A7, c7, rfl⟩ := own_form' hown7
          have hp7 := hp6.grown hg7 (fun e => by have := hge6 _ e.symm; omega)
          have hb7 := hb6.grown hg7 hb6.size (fun j hj => by have := hge6 _ hj; omega)
          have h37 := h36.grown hg7 hb6.size (fun j hj => by have := hge6 _ hj; omega)
          have hHeld7 : ∀ j, W7.cell? ⟨w.heap.size, j, none⟩ = (#[.string p.err, .string p.dir, .slice Af p.files.length cf] : Array Value)[j]? := hp7.cell
          refine hK.out _ _ (.inr hHeld7) ?_
          clear hK K
          (try go_frame)
          clear hHeld6 hg7 hge6 hcut6 hown6 hp6 hb6 h36 hs6
          refine wpAnyM_take (i := 12) (oi := ⟨some 5, _, _, _, _, _⟩) (v := (.slice A7 (xs.length + 1) c7)) rfl (by kernel_rfl) (by kernel_rfl) (by kernel_rfl) (by kernel_rfl) (by decide) (fun _ _ _ h => h) (by assumption) (Or.inl ⟨by rfl, ?_⟩) ?_
          · intro W hSW
            (try dsimp only at hSW)
            go_simp
          (try go_frame)
          refine wpAnyM_done (by kernel_rfl) (NoPanic.normal ?_)
          have hwh : PkgsAt W7 W7.heap.size (.slice A7 (xs.length + 1) c7) (xs.take k ++ p :: xs.drop k) := pkgs_whole (ms := [.string p.err, .string p.dir, .slice Af p.files.length cf]) hown7 HCL.out HC3.out (fun i cs x h1 h2 => (HR.out i cs x h1 h2).below h37) (HPm.out W7 hb7) rfl hk hb7.size
          have hlw : (xs.take k ++ p :: xs.drop k).length = xs.length + 1 := by simp; omega
          have hix : ∀ q ∈ xs, q ∈ xs.take k ++ p :: xs.drop k := by
            intro q hq
            rw [← List.take_append_drop k xs] at hq
            rcases List.mem_append.1 hq with h | h
            · exact List.mem_append_left _ h
            · exact List.mem_append_right _ (List.mem_cons_of_mem _ h)
          have hip : p ∈ xs.take k ++ p :: xs.drop k := List.mem_append_right _ (List.mem_cons_self ..)
          have hww : ∀ q ∈ xs.take k ++ p :: xs.drop k, q.Wide := by
            intro q hq
            rcases List.mem_append.1 hq with h | h
            · exact HW.out q (List.mem_of_mem_take h)
            · rcases List.mem_cons.1 h with h | h
              · rw [h]; exact HPW.out
              · exact HW.out q (List.mem_of_mem_drop h)
          generalize xs.take k ++ p :: xs.drop k = whole at *
          have HP7 := Lib.hid hp7
          have HWH := Lib.hid hwh
          have HIX' := Lib.hid hix
          have HIP := Lib.hid hip
          have HWW := Lib.hid hww
          clear hwh hix hip hww hHeld7 h37 hown7 hp7 HCL HC3 HR HONE HCT hrun1 hrun2
          go_wp2_with fail
          refine (O1.out _ hb7).mono ?_
          rintro e w8 ⟨b8, rfl, hc8, _⟩
          have hb8 := hb7.trans (hc8.mono hb7.size)
          cases b8
          case' false =>
            go_wp2_with fail
            go_ret
            exact ⟨rfl, hb8⟩
          have hl1' : whole.length ≤ 9223372036854775807 := by omega
          have O2 := Lib.hid (fun (W : World) (h : Below W7.heap.size W7 W) => indexOk_any W7.heap.size (.slice A7 (xs.length + 1) c7) whole W h.size hl1' HWW.out (PkgsAt.below HWH.out h))
          clear O1 hl1'
          go_wp2_with fail
          refine (O2.out _ hc8).mono ?_
          rintro e w9 ⟨b9, rfl, hc9, hs9⟩
          have hb9 := hb8.trans (hc9.mono hb8.size)
          have hd9 := hc8.trans (hc9.mono hc8.size)
          have HS9 := Lib.hid hs9
          clear hs9 hc9 hc8 O2
          cases b9
          case' false =>
            go_wp2_with fail
            go_ret
            exact ⟨rfl, hb9⟩
          have hpk := (HS9.out rfl).1
          have HST := Lib.hid (HS9.out rfl).2
          have hl2 := hpk.len
          have HPK := Lib.hid hpk
          have HIX := Lib.hid (enc_is whole hpk)
          have hpos := enc_pos whole hpk
          have hp0 := hpos.1
          have hp8 := hpos.2
          have D1 := Lib.hid (encode_any W7.heap.size (.slice A7 (xs.length + 1) c7) whole w9 hd9.size hpk (PkgsAt.below HWH.out hd9))
          clear HS9 hpk hpos
          generalize enc whole = l at *
          go_wp2_with fail
          refine D1.out.mono ?_
          rintro e w10 ⟨v1, rfl, ho1, hc10⟩
          have hb10 := hb9.trans (hc10.mono hb9.size)
          have hd10 := hd9.trans (hc10.mono hd9.size)
          obtain ⟨A1, c1, rfl⟩ := own_form' ho1
          have FI := Lib.hid (fun (W : World) (d : ByteArray) (h : Below w10.heap.size w10 W) => implFind_ok (.slice A1 l.length c1) l whole d ga oa W ((bs_of_own ho1).below h) HIX.out hl2 HPK.out.each HST.out (HC.out.below (hb10.trans (h.mono hb10.size))) (by omega))
          have HB10 := Lib.hid hb10
          have hp10 := HP7.out.below hd10 HP7.out.lt
          have HP10 := Lib.hid hp10
          clear ho1 hc10 D1 hb10 hd10 hp10 hd9 hb9 hb8 hb7 HWH HWW HP7
          go_wp2_with fail
          go_loopw [63] (fun i wr => ∃ k : Nat, k ≤ xs.length ∧ i = .int .i64 k ∧ Below w10.heap.size w10 wr) (fun i _ => xs.length - (intOf i).toNat)
          case' atStart => exact ⟨0, Nat.zero_le _, rfl, Below.refl _ _⟩
          case' round =>
            obtain ⟨k', hk', rfl, hF⟩ := hrel
            have hsz := hF.size
            have hFw := HB10.out.trans (hF.mono HB10.out.size)
            have hsz0 := hFw.size
            by_cases hlt : k' < xs.length
            · obtain ⟨gp, op, cs, rfl, hgp, _, hRk, hcell⟩ := (HX.out wr hFw).get (by omega) k' hlt
              have hRk2 := hRk
              obtain ⟨vq, rfl, hfq⟩ := hRk
              have d0 : wr.cell? ⟨gp, op + k' * 3, none⟩ = some (.string xs[k'].err) := hcell 0 _ rfl
              have d1 : wr.cell? ⟨gp, op + k' * 3 + 1, none⟩ = some (.string xs[k'].dir) := hcell 1 _ rfl
              have d2 : wr.cell? ⟨gp, op + k' * 3 + 2, none⟩ = some vq := hcell 2 _ rfl
              obtain ⟨Aq, cq, rfl⟩ := hfq.form
              have hmem := List.getElem_mem hlt
              have hWp := HW.out _ hmem
              have HME := Lib.hid (HIX'.out _ hmem)
              have HRK := Lib.hid hRk2
              clear hcell hfq hRk2 hmem
              generalize xs[k'] = r at *
              obtain ⟨Wa, HWa⟩ : ∃ Wa, Wa = wr.alloc (.cells #[.string r.err, .string r.dir, .slice Aq r.files.length cq] 32) := ⟨_, rfl⟩
              have hba : Below wr.heap.size wr Wa := by rw [HWa]; exact (Below.refl _ _).alloc (Nat.le_refl _) _
              have hpa : Blk Wa wr.heap.size 32 #[.string r.err, .string r.dir, .slice Aq r.files.length cq] := by rw [HWa]; exact Blk.new _ _ _
              have hFa := hF.trans (hba.mono hsz)
              have CF := Lib.hid (FI.out Wa r.dir hFa)
              have HFa := Lib.hid hFa
              have HPa := Lib.hid hpa
              have HBa := Lib.hid hba
              have HWE := Lib.hid HWa
              clear hba hpa hFa HWa
              go_wp2_with fail
              rw [show wr.alloc (.cells #[.string r.err, .string r.dir, .slice Aq r.files.length cq] 32) = Wa from HWE.out.symm]
              refine CF.out.mono ?_
              rintro e wb ⟨Ab, cb, q, rfl, hpt, hbb, hits⟩
              obtain rfl := hits.self HST.out HME.out
              obtain ⟨Wc, HWc⟩ : ∃ Wc, Wc = wb.alloc (.cells #[.string q.err, .string q.dir, .slice Ab q.files.length cb] 32) := ⟨_, rfl⟩
              have hbc : Below wb.heap.size wb Wc := by rw [HWc]; exact (Below.refl _ _).alloc (Nat.le_refl _) _
              have hpc : Blk Wc wb.heap.size 32 #[.string q.err, .string q.dir, .slice Ab q.files.length cb] := by rw [HWc]; exact Blk.new _ _ _
              have hac := hbb.trans (hbc.mono hbb.size)
              have hsb : wr.heap.size < wb.heap.size := Nat.lt_of_lt_of_le HPa.out.lt hbb.size
              have hqb := HPa.out.below hbb HPa.out.lt
              have e0 : wb.cell? ⟨wr.heap.size, 0, none⟩ = some (.string q.err) := hqb.cell 0
              have e1 : wb.cell? ⟨wr.heap.size, 1, none⟩ = some (.string q.dir) := hqb.cell 1
              have e2 : wb.cell? ⟨wr.heap.size, 2, none⟩ = some (.slice Aq q.files.length cq) := hqb.cell 2
              have hFc := HFa.out.trans (hac.mono HFa.out.size)
              have hkc : PkgR Wc wb.heap.size [.string q.err, .string q.dir, .slice Aq q.files.length cq] q := (HRK.out.below ((HBa.out.trans (hac.mono HBa.out.size)).mono hsz0)).more (by omega)
              have SC := Lib.hid (samePkg_any wb.heap.size [.string q.err, .string q.dir, .slice Ab q.files.length cb] [.string q.err, .string q.dir, .slice Aq q.files.length cq] q q Wc hbc.size hWp ((PkgT.r hpt).below hbc) hkc)
              have HFc := Lib.hid hFc
              have HWEc := Lib.hid HWc
              clear hpt hbb hits hbc hpc hac hqb hFc hkc HWc CF d0 d1 d2
              go_wp2_with fail
              rw [show wb.alloc (.cells #[.string q.err, .string q.dir, .slice Ab q.files.length cb] 32) = Wc from HWEc.out.symm]
              refine SC.out.mono ?_
              rintro e wd ⟨bb, rfl, hbd, hiff⟩
              have hbt : bb = true := by simpa using hiff
              subst hbt
              have HFd := Lib.hid (HFc.out.trans (hbd.mono HFc.out.size))
              clear hbd hiff
              go_wp2_with fail
              go_roundw
              case' rel => exact ⟨k' + 1, by omega, by go_num, HFd.out⟩
              case' measure => simp [intOf]; omega
            · have hpr := HP10.out.below hF HP10.out.lt
              have d0 : wr.cell? ⟨w.heap.size, 0, none⟩ = some (.string p.err) := hpr.cell 0
              have d1 : wr.cell? ⟨w.heap.size, 1, none⟩ = some (.string p.dir) := hpr.cell 1
              have d2 : wr.cell? ⟨w.heap.size, 2, none⟩ = some (.slice Af p.files.length cf) := hpr.cell 2
              have CF := Lib.hid (FI.out wr p.dir hF)
              have HFw := Lib.hid hFw
              have HPR := Lib.hid hpr
              clear hFw hpr
              go_wp2_with fail
              refine CF.out.mono ?_
              rintro e wb ⟨Ab, cb, q, rfl, hpt, hbb, hits⟩
              obtain hqp := hits.self HST.out HIP.out
              rw [hqp] at hpt ⊢
              clear hqp hits
              obtain ⟨Wc, HWc⟩ : ∃ Wc, Wc = wb.alloc (.cells #[.string p.err, .string p.dir, .slice Ab p.files.length cb] 32) := ⟨_, rfl⟩
              have hbc : Below wb.heap.size wb Wc := by rw [HWc]; exact (Below.refl _ _).alloc (Nat.le_refl _) _
              have hpc : Blk Wc wb.heap.size 32 #[.string p.err, .string p.dir, .slice Ab p.files.length cb] := by rw [HWc]; exact Blk.new _ _ _
              have hqb := HPR.out.below hbb HPR.out.lt
              have hltb := hqb.lt
              have e0 : wb.cell? ⟨w.heap.size, 0, none⟩ = some (.string p.err) := hqb.cell 0
              have e1 : wb.cell? ⟨w.heap.size, 1, none⟩ = some (.string p.dir) := hqb.cell 1
              have e2 : wb.cell? ⟨w.heap.size, 2, none⟩ = some (.slice Af p.files.length cf) := hqb.cell 2
              have hFb := HFw.out.trans (hbb.mono hsz0)
              have hFc := hFb.trans (hbc.mono hFb.size)
              have hkc : PkgR Wc wb.heap.size [.string p.err, .string p.dir, .slice Af p.files.length cf] p := (HPm.out Wc hFc).more hFb.size
              have SC := Lib.hid (samePkg_any wb.heap.size [.string p.err, .string p.dir, .slice Ab p.files.length cb] [.string p.err, .string p.dir, .slice Af p.files.length cf] p p Wc hbc.size HPW.out ((PkgT.r hpt).below hbc) hkc)
              have HFc := Lib.hid hFc
              have HWEc := Lib.hid HWc
              clear hpt hbb hbc hpc hqb hFb hFc hkc HWc CF d0 d1 d2
              go_wp2_with fail
              rw [show wb.alloc (.cells #[.string p.err, .string p.dir, .slice Ab p.files.length cb] 32) = Wc from HWEc.out.symm]
              refine SC.out.mono ?_
              rintro e wd ⟨bb, rfl, hbd, hiff⟩
              have hbt : bb = true := by simpa using hiff
              subst hbt
              have HBL := Lib.hid (HFc.out.trans (hbd.mono HFc.out.size))
              clear hbd hiff
              go_wp2_with fail
              go_ret
              exact ⟨rfl, HBL.out⟩
end Go.Proofs.YtanfimeajalffaaGreatDoor
