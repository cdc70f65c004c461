/-
  The contract of SamePackages: it tells whether two lists of packages are equal. Conditions: the premises of each theorem.
-/
import Derived.Test.YtanfimeajalffaaGreatDoorSames
namespace Go.Proofs.YtanfimeajalffaaGreatDoor
open Go.RowKit
attribute [local go_sem ↓] Go.wp_at_zero Go.wp_at_succ

set_option maxHeartbeats 4000000 in
set_option maxRecDepth 100000 in
theorem samePkgs_any (B : Nat) (u v : Value) (xs ys : List PkgD) (w : World) (hB : B ≤ w.heap.size) (hl : xs.length ≤ 9223372036854775807) (hw : ∀ p ∈ xs, p.Wide) (hx : PkgsAt w B u xs) (hy : PkgsAt w B v ys) :
    Calls Tryz.prog 11 #[u, v] w (Exact (xs = ys) w) := by
  obtain ⟨A, c, rfl⟩ := ListAt.form hx
  obtain ⟨A', c', rfl⟩ := ListAt.form hy
  have HX := Lib.hid hx
  have HY := Lib.hid hy
  have HW := Lib.hid hw
  clear hx hy hw
  by_cases hlen : (xs.length : Int) = (ys.length : Int)
  · have hle : ys.length ≤ xs.length := by omega
    have hge : xs.length ≤ ys.length := by omega
    go_enter Tryz.func11, Tryz.ntmps11
    go_wp2_with fail
    go_loopw [5, 6, 14] (fun _ _ i wr => ∃ k : Nat, k ≤ xs.length ∧ i = .int .i64 k ∧ Below w.heap.size w wr ∧ Alike_ xs ys k) (fun _ _ i _ => xs.length - (intOf i).toNat)
    case atStart => exact ⟨0, Nat.zero_le _, rfl, Below.refl _ _, fun j _ _ h => by omega⟩
    case round =>
      obtain ⟨k, hk, rfl, hF, hal⟩ := hrel
      obtain ⟨wo, rfl⟩ : ∃ wo : World, wo = wr := ⟨_, rfl⟩
      have hsz := hF.size
      by_cases hlt : k < xs.length
      · have hlt2 : k < ys.length := by omega
        obtain ⟨ag, ao, ca, rfl, hab, hl1, hRa, hca⟩ := (PkgsAt.below HX.out (hF.mono hB)).get (by omega) k hlt
        obtain ⟨bg, bo, cb, rfl, hbb, hl2, hRb, hcb⟩ := (PkgsAt.below HY.out (hF.mono hB)).get (by omega) k hlt2
        have HS := Lib.hid (alike_succ hal hlt hlt2)
        have HN : Hid (xs[k] ≠ ys[k] → xs ≠ ys) := Lib.hid (alike_ne hlt hlt2)
        have hwf := HW.out _ (List.getElem_mem hlt)
        have i1 : (0 : Int) ≤ (k : Int) := by omega
        have i2 : (k : Int) < (ys.length : Int) := by omega
        have hbgl : bg < wo.heap.size := Nat.lt_of_lt_of_le hbb (Nat.le_trans hB hsz)
        have hBo := Nat.le_trans hB hsz
        generalize xs[k] = p at hRa HS HN hwf
        generalize ys[k] = q at hRb HS HN
        have HC := Lib.hid (fun W (h : Below wo.heap.size wo W) => samePkg_any B ca cb p q W (Nat.le_trans hBo h.size) hwf (hRa.below (h.mono hBo)) (hRb.below (h.mono hBo)))
        obtain ⟨vf, rfl, hfs⟩ := hRa
        obtain ⟨uf, rfl, hgs⟩ := hRb
        obtain ⟨Af, cf, rfl⟩ := hfs.form
        obtain ⟨Ag, cg, rfl⟩ := hgs.form
        have d0 : wo.cell? ⟨ag, ao + k * 3, none⟩ = some (.string p.err) := hca 0 _ rfl
        have d1 : wo.cell? ⟨ag, ao + k * 3 + 1, none⟩ = some (.string p.dir) := hca 1 _ rfl
        have d2 : wo.cell? ⟨ag, ao + k * 3 + 2, none⟩ = some (.slice Af p.files.length cf) := hca 2 _ rfl
        have x0 : wo.cell? ⟨bg, bo + k * 3, none⟩ = some (.string q.err) := hcb 0 _ rfl
        have x1 : wo.cell? ⟨bg, bo + k * 3 + 1, none⟩ = some (.string q.dir) := hcb 1 _ rfl
        have x2 : wo.cell? ⟨bg, bo + k * 3 + 2, none⟩ = some (.slice Ag q.files.length cg) := hcb 2 _ rfl
        have HH : Hid ((∀ j, (wo.alloc (.cells #[.string p.err, .string p.dir, .slice Af p.files.length cf] 32)).drew.cell? ⟨wo.heap.size, j, none⟩ = (#[.string p.err, .string p.dir, .slice Af p.files.length cf] : Array Value)[j]?) ∧ (wo.alloc (.cells #[.string p.err, .string p.dir, .slice Af p.files.length cf] 32)).drew.cell? ⟨bg, bo + k * 3, none⟩ = some (.string q.err) ∧ (wo.alloc (.cells #[.string p.err, .string p.dir, .slice Af p.files.length cf] 32)).drew.cell? ⟨bg, bo + k * 3 + 1, none⟩ = some (.string q.dir) ∧ (wo.alloc (.cells #[.string p.err, .string p.dir, .slice Af p.files.length cf] 32)).drew.cell? ⟨bg, bo + k * 3 + 2, none⟩ = some (.slice Ag q.files.length cg)) := Lib.hid ⟨(Blk.new wo 32 #[.string p.err, .string p.dir, .slice Af p.files.length cf]).cell, (World.cell?_alloc_lt wo _ _ hbgl).trans x0, (World.cell?_alloc_lt wo _ _ hbgl).trans x1, (World.cell?_alloc_lt wo _ _ hbgl).trans x2⟩
        clear hal hwf hl1 hl2 hca hcb hfs hgs
        go_wp2_with fail
        refine wp_region_m 99 (fun W => (∀ j, W.cell? ⟨wo.heap.size, j, none⟩ = (#[.string p.err, .string p.dir, .slice Af p.files.length cf] : Array Value)[j]?) ∧ W.cell? ⟨bg, bo + k * 3, none⟩ = some (.string q.err) ∧ W.cell? ⟨bg, bo + k * 3 + 1, none⟩ = some (.string q.dir) ∧ W.cell? ⟨bg, bo + k * 3 + 2, none⟩ = some (.slice Ag q.files.length cg)) (by kernel_rfl) ?_
        have hHeld := HH.out
        refine wpAnyM_take (i := 0) (oi := ⟨some 19, _, _, _, _, _⟩) (v := (.agg #[.string p.err, .string p.dir, .slice Af p.files.length cf])) rfl (by kernel_rfl) (by kernel_rfl) (by kernel_rfl) (by kernel_rfl) (by decide) (fun _ _ _ h => h) (by assumption) (Or.inl ⟨by rfl, ?_⟩) ?_
        · intro W hSW
          (try dsimp only at hSW)
          go_simp
        (try go_frame)
        refine wpAnyM_take (i := 1) (oi := ⟨some 20, _, _, _, _, _⟩) (v := (.slice (some ⟨bg, bo, none⟩) ys.length c')) rfl (by kernel_rfl) (by kernel_rfl) (by kernel_rfl) (by kernel_rfl) (by decide) (fun _ _ _ h => h) (by assumption) (Or.inl ⟨by rfl, ?_⟩) ?_
        · intro W hSW
          (try dsimp only at hSW)
          go_simp
        (try go_frame)
        refine wpAnyM_take (i := 2) (oi := ⟨some 21, _, _, _, _, _⟩) (v := (.int .i64 k)) rfl (by kernel_rfl) (by kernel_rfl) (by kernel_rfl) (by kernel_rfl) (by decide) (fun _ _ _ h => h) (by assumption) (Or.inl ⟨by rfl, ?_⟩) ?_
        · intro W hSW
          (try dsimp only at hSW)
          go_simp
        (try go_frame)
        refine wpAnyM_take (i := 3) (oi := ⟨some 22, _, _, _, _, _⟩) (v := (.pointer (some ⟨bg, bo + k * 3, none⟩))) rfl (by kernel_rfl) (by kernel_rfl) (by kernel_rfl) (by kernel_rfl) (by decide) (fun _ _ _ h => h) (by assumption) (Or.inl ⟨by rfl, ?_⟩) ?_
        · intro W hSW
          (try dsimp only at hSW)
          go_simp
        (try go_frame)
        refine wpAnyM_take (i := 4) (oi := ⟨some 23, _, _, _, _, _⟩) (v := (.agg #[.string q.err, .string q.dir, .slice Ag q.files.length cg])) rfl (by kernel_rfl) (by kernel_rfl) (by kernel_rfl) (by kernel_rfl) (by decide) (fun _ _ _ h => h) (by assumption) (Or.inl ⟨by rfl, ?_⟩) ?_
        · intro W hSW
          (try dsimp only at hSW)
          go_simp
        (try go_frame)
        refine wpAnyM_only (i := 5) (oi := ⟨some 24, _, _, _, _, _⟩) rfl (by kernel_rfl) (fun K hK => ?_)
        go_simp
        refine (HC.out _ (((Below.refl _ _).alloc (Nat.le_refl _) _).drew)).mono ?_
        rintro e w1 ⟨b, rfl, hb1, hs1⟩
        have hb2 : Below (wo.heap.size + 1) ((wo.alloc (.cells #[.string p.err, .string p.dir, .slice Af p.files.length cf] 32)).drew) w1 := by
          have e : ((wo.alloc (.cells #[.string p.err, .string p.dir, .slice Af p.files.length cf] 32)).drew).heap.size = wo.heap.size + 1 := by simp
          rw [e] at hb1
          exact hb1
        have hb3 : Below wo.heap.size wo w1 := (((Below.refl _ _).alloc (Nat.le_refl _) _).drew).trans (hb2.mono (by omega))
        have hF2 := hF.trans (hb3.mono hsz)
        have HS1 := Lib.hid hs1
        have hHeld2 : (∀ j, w1.cell? ⟨wo.heap.size, j, none⟩ = (#[.string p.err, .string p.dir, .slice Af p.files.length cf] : Array Value)[j]?) ∧ w1.cell? ⟨bg, bo + k * 3, none⟩ = some (.string q.err) ∧ w1.cell? ⟨bg, bo + k * 3 + 1, none⟩ = some (.string q.dir) ∧ w1.cell? ⟨bg, bo + k * 3 + 2, none⟩ = some (.slice Ag q.files.length cg) := ⟨keepCells' (hb2.block _ (by omega)) hHeld.1, (hb3.cell (p := ⟨bg, bo + k * 3, none⟩) hbgl).trans x0, (hb3.cell (p := ⟨bg, bo + k * 3 + 1, none⟩) hbgl).trans x1, (hb3.cell (p := ⟨bg, bo + k * 3 + 2, none⟩) hbgl).trans x2⟩
        clear hs1 hb1 d0 d1 d2 x0 x1 x2
        go_wp2_with fail
        refine hK.out _ _ (.inr hHeld2) ?_
        clear hK K
        (try go_frame)
        clear hHeld
        cases b
        · skip
          refine wpAnyM_take (i := 6) (oi := ⟨some 25, _, _, _, _, _⟩) (v := (.bool true)) rfl (by kernel_rfl) (by kernel_rfl) (by kernel_rfl) (by kernel_rfl) (by decide) (fun _ _ _ h => h) (by assumption) (Or.inl ⟨by rfl, ?_⟩) ?_
          · intro W hSW
            (try dsimp only at hSW)
            go_simp
          (try go_frame)
          refine wpAnyM_done (by kernel_rfl) (NoPanic.normal ?_)
          clear hHeld2 hb2 hb3
          have HNE : Hid (¬ xs = ys) := Lib.hid (HN.out (fun e => by have := HS1.out.2 e; cases this))
          go_wp2_with fail
          go_ret
          exact ⟨_, rfl, hF2, by simp [HNE.out]⟩
        · skip
          refine wpAnyM_take (i := 6) (oi := ⟨some 25, _, _, _, _, _⟩) (v := (.bool false)) rfl (by kernel_rfl) (by kernel_rfl) (by kernel_rfl) (by kernel_rfl) (by decide) (fun _ _ _ h => h) (by assumption) (Or.inl ⟨by rfl, ?_⟩) ?_
          · intro W hSW
            (try dsimp only at hSW)
            go_simp
          (try go_frame)
          refine wpAnyM_done (by kernel_rfl) (NoPanic.normal ?_)
          clear hHeld2 hb2 hb3
          have HEQ := Lib.hid (HS.out (HS1.out.1 rfl))
          go_wp2_with fail
          go_roundw
          case rel => exact ⟨k + 1, by omega, by go_num, hF2, HEQ.out⟩
          case measure => simp [intOf]; omega
      · have hkl : k = xs.length := by omega
        subst hkl
        have HE : Hid (xs = ys) := Lib.hid (eq_of_take (by omega) hal)
        clear hal
        go_wp2_with fail
        go_ret
        exact ⟨_, rfl, hF, by simp [HE.out]⟩
  · have HNE : Hid (xs ≠ ys) := Lib.hid (by rintro rfl; exact hlen rfl)
    go_enter Tryz.func11, Tryz.ntmps11
    go_wp2_with fail
    go_ret
    exact ⟨_, rfl, Below.refl _ _, by simp [HNE.out]⟩
end Go.Proofs.YtanfimeajalffaaGreatDoor
