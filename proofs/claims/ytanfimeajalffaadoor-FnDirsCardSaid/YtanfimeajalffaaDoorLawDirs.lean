/-
  FnDirs: the law returns true, and leaves what was there. Conditions: packages as they lie in memory.
-/
import Derived.Test.YtanfimeajalffaaDoorLawBase
import Derived.Test.YtanfimeajalffaaDoorDirsOk
import Derived.Test.YtanfimeajalffaaDoorSameTexts
namespace Go.Proofs.YtanfimeajalffaaDoor
open Go.RowKit

theorem strs_own {w w' : World} {base c n : Nat} {A : Option Addr} {ss : List ByteArray} (h : w.ownsRow base 9 1 (.slice A n c) n (ss.map Value.string)) (hb : Below w.heap.size w w') : StrsAt w' w.heap.size (.slice A n c) ss := by
  have hn : ss.length = n := by have := h.1; simpa using this
  subst hn
  exact ⟨A, c, rfl, (Reads.of_own h).below hb⟩

set_option maxHeartbeats 4000000 in
set_option maxRecDepth 100000 in
theorem fnDirs_any (u : Value) (xs : List PkgD) (w : World) (hl1 : xs.length ≤ 9223372036854775807) (hw1 : ∀ p ∈ xs, p.Wide) (hx : PkgsAt w w.heap.size u xs) :
    Calls Tryd.prog 3 #[u] w fun e w' => e = .returned (.bool true) ∧ Below w.heap.size w w' := by
  obtain ⟨i1, hi1, hz3, hz4, hz5⟩ := info_parts' text_info
  have hX := fun (W : World) (h : Below w.heap.size w W) => PkgsAt.below hx h
  have F1 := Lib.hid (fun (W : World) (h : Below w.heap.size w W) => fits1_any w.heap.size u xs W h.size hl1 hw1 (hX W h))
  have O1 := Lib.hid (fun (W : World) (h : Below w.heap.size w W) => indexOk_any w.heap.size u xs W h.size hl1 hw1 (hX W h))
  have E1 := Lib.hid (fun (W : World) (h : Below w.heap.size w W) (hok : PkgsOk xs) => encode_any w.heap.size u xs W h.size hok (hX W h))
  obtain ⟨A, c, rfl⟩ := ListAt.form hx
  have HX := Lib.hid hX
  have hb0 : Below w.heap.size w w := Below.refl _ _
  clear hx hX hw1
  go_enter Tryd.func3, Tryd.ntmps3
  go_wp2_with fail
  refine (F1.out _ hb0).mono ?_
  rintro e w1 ⟨b1, rfl, hc1⟩
  have hb1 := hb0.trans (hc1.mono hb0.size)
  clear hc1
  cases b1
  case' false =>
    go_wp2_with fail
    go_ret
    exact ⟨rfl, hb1⟩
  go_wp2_with fail
  refine (O1.out _ hb1).mono ?_
  rintro e w3 ⟨b3, rfl, hc3, hs3⟩
  have hb3 := hb1.trans (hc3.mono hb1.size)
  have HS3 := Lib.hid hs3
  clear hc3 hs3
  cases b3
  case' false =>
    go_wp2_with fail
    go_ret
    exact ⟨rfl, hb3⟩
  have hp1 := (HS3.out (by simp)).1
  have hl2 := hp1.len
  have HP := Lib.hid hp1
  have hown0 : (w3.alloc (.cells #[] 9)).ownsRow w.heap.size 9 1 (.slice (some ⟨w3.heap.size, 0, none⟩) 0 0) 0 [] := World.ownsRow_made w3 #[] 0 hb3.size (by simp [maxLen]) rfl
  have HO0 := Lib.hid hown0
  have HB3 := Lib.hid hb3
  clear hb0 hb1 HS3 hp1 hl1 hown0
  go_wp2_with fail
  go_loopw [3, 17] (fun v i wr => ∃ k : Nat, k ≤ xs.length ∧ i = .int .i64 k ∧ wr.ownsRow w.heap.size 9 1 v k (((xs.take k).map PkgD.dir).map Value.string) ∧ Below w.heap.size w wr) (fun _ i _ => xs.length - (intOf i).toNat)
  case atStart => exact ⟨0, Nat.zero_le _, rfl, HO0.out, HB3.out.alloc hb3.size _⟩
  case round =>
    clear HO0 HB3 hb3
    obtain ⟨k, hk, rfl, hown, hF⟩ := hrel
    have hsz := hF.size
    by_cases hlt : k < xs.length
    · obtain ⟨gp, op, cs, rfl, hgp, _, ⟨vf, rfl, hfs⟩, hcell⟩ := (HX.out wr hF).get (by omega) k hlt
      have c0 : wr.cell? ⟨gp, op + k * 3, none⟩ = some (.string xs[k].err) := hcell 0 _ rfl
      have c1 : wr.cell? ⟨gp, op + k * 3 + 1, none⟩ = some (.string xs[k].dir) := hcell 1 _ rfl
      have c2 : wr.cell? ⟨gp, op + k * 3 + 2, none⟩ = some vf := hcell 2 _ rfl
      have hts : ((xs.take (k + 1)).map PkgD.dir).map Value.string = ((xs.take k).map PkgD.dir).map Value.string ++ [.string xs[k].dir] := by rw [take_snoc' xs k hlt, List.map_append, List.map_append]; rfl
      have HTS := Lib.hid hts
      obtain ⟨Af, cf, rfl⟩ := hfs.form
      clear hcell hfs hts
      generalize xs[k] = p at *
      have hown2 := (hown.alloc (.cells #[.string p.err, .string p.dir, .slice Af p.files.length cf] 27)).alloc (.cells #[.string p.dir] 9)
      have hnew := cells_new (wr.alloc (.cells #[.string p.err, .string p.dir, .slice Af p.files.length cf] 27)) #[.string p.dir] 9 (wr.heap.size + 1) (by simp)
      have hF2 : Below w.heap.size w ((wr.alloc (.cells #[.string p.err, .string p.dir, .slice Af p.files.length cf] 27)).alloc (.cells #[.string p.dir] 9)) := (hF.alloc hsz _).alloc (by simp; omega) _
      have HF2 := Lib.hid hF2
      clear hown hF hF2
      go_wp2_with (at_builtin; refine wpList_append_own_at _ rfl (.tmp 21) (.tmp 24) _ rfl w.heap.size 9 i1 _ 1 16 Tryd.underlying24 hi1 hz3 hz4 hz5 rfl (by decide) _ k _ rfl hown2 ⟨wr.heap.size + 1, 0, none⟩ 1 1 [.string p.dir] rfl rfl hnew (one_cell _ rfl) (by unfold maxLen; omega) (by omega) (by simp; omega) ?_; intro v4 w4 hown4 hgrow4 _ hat4)
      have hF4 := HF2.out.grown hgrow4 HF2.out.size (fun j hj => (hown2.lt j hj).1)
      rw [← HTS.out] at hown4
      have HO4 := Lib.hid hown4
      have HF4 := Lib.hid hF4
      clear hown4 hgrow4 hat4 hown2 hnew hF4
      go_roundw
      case rel => exact ⟨k + 1, by omega, by go_num, HO4.out, HF4.out⟩
      case measure => simp [intOf]; omega
    · have hkl : k = xs.length := by omega
      subst hkl
      rw [List.take_length] at hown
      obtain ⟨Ad, cd, rfl⟩ := own_form' hown
      have HO := Lib.hid hown
      have HF := Lib.hid hF
      have hpos := enc_pos xs HP.out
      have hix := enc_is xs HP.out
      have HIX := Lib.hid hix
      clear hown hF hix
      have D1 := Lib.hid (E1.out wr HF.out HP.out)
      generalize enc xs = l at *
      go_wp2_with fail
      refine D1.out.mono ?_
      rintro e w5 ⟨v5, rfl, ho5, hb5⟩
      have DD := Lib.hid (implDirs_ok v5 l xs w5 (bs_of_own ho5) HIX.out hl2 HP.out.each (by omega))
      obtain ⟨A5, c5, rfl⟩ := own_form' ho5
      have HB5 := Lib.hid hb5
      clear ho5 hb5
      go_wp2_with fail
      refine DD.out.mono ?_
      rintro e w6 ⟨A6, c6, rfl, ho6, hb6⟩
      have hdu : StrsAt w6 wr.heap.size (.slice Ad xs.length cd) (xs.map PkgD.dir) := strs_own HO.out (HB5.out.trans (hb6.mono HB5.out.size))
      have hgt : StrsAt w6 w6.heap.size (.slice A6 xs.length c6) (xs.map PkgD.dir) := strs_own ho6 (Below.refl _ _)
      have hdu2 : StrsAt w6 w6.heap.size (.slice Ad xs.length cd) (xs.map PkgD.dir) := by
        obtain ⟨A', c', e, h⟩ := hdu
        exact ⟨A', c', e, h.more (Nat.le_trans HB5.out.size hb6.size)⟩
      have S := Lib.hid (sameTexts_any w6.heap.size _ _ (xs.map PkgD.dir) (xs.map PkgD.dir) w6 (by simp; omega) hgt hdu2)
      have HBL := Lib.hid (HF.out.trans ((HB5.out.trans (hb6.mono HB5.out.size)).mono HF.out.size))
      clear ho6 hb6 hdu hgt hdu2
      go_wp2_with fail
      refine S.out.mono ?_
      rintro e w7 ⟨bb, rfl, hb7, hiff⟩
      have hbt : bb = true := by simpa using hiff
      subst hbt
      clear hiff
      go_wp2_with fail
      go_ret
      exact ⟨rfl, HBL.out.trans (hb7.mono HBL.out.size)⟩
end Go.Proofs.YtanfimeajalffaaDoor
