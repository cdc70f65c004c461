/-
  FnBack: the law returns true, and leaves what was there. Conditions: packages as they lie in memory.
-/
import Derived.Test.YtanfimeajalffaaGreatDoorLawBase
import Derived.Test.YtanfimeajalffaaGreatDoorDecOk
import Derived.Test.YtanfimeajalffaaGreatDoorSames2
namespace Go.Proofs.YtanfimeajalffaaGreatDoor
open Go.RowKit

set_option maxHeartbeats 4000000 in
set_option maxRecDepth 100000 in
theorem fnBack_any (u : Value) (xs : List PkgD) (w : World) (hl1 : xs.length ≤ 9223372036854775807) (hw1 : ∀ p ∈ xs, p.Wide) (hx : PkgsAt w w.heap.size u xs) :
    Calls Tryz.prog 3 #[u] w fun e w' => e = .returned (.bool true) ∧ Below w.heap.size w w' := by
  have hX := fun (W : World) (h : Below w.heap.size w W) => PkgsAt.below hx h
  have F1 := Lib.hid (fun (W : World) (h : Below w.heap.size w W) => fits1_any w.heap.size u xs W h.size hl1 hw1 (hX W h))
  have O1 := Lib.hid (fun (W : World) (h : Below w.heap.size w W) => indexOk_any w.heap.size u xs W h.size hl1 hw1 (hX W h))
  have E1 := Lib.hid (fun (W : World) (h : Below w.heap.size w W) (hok : PkgsOk xs) => encode_any w.heap.size u xs W h.size hok (hX W h))
  have HX := Lib.hid hX
  have HW := Lib.hid hw1
  obtain ⟨A, c, rfl⟩ := ListAt.form hx
  have hb0 : Below w.heap.size w w := Below.refl _ _
  clear hx hX hw1
  go_enter Tryz.func3, Tryz.ntmps3
  go_wp2_with fail
  refine (F1.out _ hb0).mono ?_
  rintro e w1 ⟨b1, rfl, hc1⟩
  have hb1 := hb0.trans (hc1.mono hb0.size)
  clear hc1
  cases b1
  case' false =>
    go_wp2_with fail
    go_ret
    exact ⟨rfl, hb1⟩
  go_wp2_with fail
  refine (O1.out _ hb1).mono ?_
  rintro e w3 ⟨b3, rfl, hc3, hs3⟩
  have hb3 := hb1.trans (hc3.mono hb1.size)
  have HS3 := Lib.hid hs3
  clear hc3 hs3
  cases b3
  case' false =>
    go_wp2_with fail
    go_ret
    exact ⟨rfl, hb3⟩
  have hp1 := (HS3.out (by simp)).1
  have hl2 := hp1.len
  have HP := Lib.hid hp1
  have hl9 : xs.length ≤ 9223372036854775807 := hl1
  have HIX := Lib.hid (enc_is xs hp1)
  have hpos := enc_pos xs hp1
  have D1 := Lib.hid (fun W h => E1.out W h hp1)
  have hp0 := hpos.1
  have hp8 := hpos.2
  clear HS3 hp1 hpos hb0 hb1 hl1
  generalize enc xs = l at *
  go_wp2_with fail
  refine (D1.out _ hb3).mono ?_
  rintro e w5 ⟨v1, rfl, ho1, hc5⟩
  have hb5 := hb3.trans (hc5.mono hb3.size)
  obtain ⟨A1, c1, rfl⟩ := own_form' ho1
  have HB5 := Lib.hid hb5
  have HO1 := Lib.hid ho1
  clear hc5 D1 hb3 hb5 ho1
  have DO := Lib.hid (implDecode_ok _ l xs w5 (bs_of_own HO1.out) HIX.out hl2 HP.out.each (by omega))
  go_wp2_with fail
  refine DO.out.mono ?_
  rintro e w6 ⟨A6, c6, rfl, ho6, hb6⟩
  have hpa : PkgsAt w6 w6.heap.size (.slice A6 xs.length c6) xs := ho6.t.at_.imp fun _ _ h => h.r
  have hb60 := HB5.out.trans (hb6.mono HB5.out.size)
  have S6 := Lib.hid (samePkgs_any w6.heap.size _ _ xs xs w6 (Nat.le_refl _) hl9 HW.out hpa ((HX.out w6 hb60).more hb60.size))
  have HB6 := Lib.hid hb60
  clear ho6 hb6 DO hpa hb60 HX HW
  go_wp2_with fail
  refine S6.out.mono ?_
  rintro e w7 ⟨bb, rfl, hb7, hiff⟩
  have hbt : bb = true := by simpa using hiff
  subst hbt
  have HBL := Lib.hid (HB6.out.trans (hb7.mono HB6.out.size))
  clear hiff hb7
  go_wp2_with fail
  go_ret
  exact ⟨rfl, HBL.out⟩
end Go.Proofs.YtanfimeajalffaaGreatDoor
