/-
  FnCut: the law returns true, and leaves what was there. Conditions: packages as they lie in memory, a number, the package's error laid.
-/
import Derived.Test.YtanfimeajalffaaDoorLawBase
import Derived.Test.YtanfimeajalffaaDoorDecOk
namespace Go.Proofs.YtanfimeajalffaaDoor
open Go.RowKit

/-- Fewer bytes than an index begins with are none. -/
theorem short_other (l : List UInt8) (h : l.length < 12) : Lib.hasPrefix l magic = false := by
  unfold Lib.hasPrefix
  cases hp : List.isPrefixOf magic l with
  | false => rfl
  | true =>
    have := (List.isPrefixOf_iff_prefix.1 hp).length_le
    have h2 : magic.length = 12 := rfl
    omega
/-- The beginning of bytes. -/
theorem BS.front {w : World} {A : Option Addr} {c : Nat} {l : List UInt8} (h : BS w (.slice A l.length c) l) (n : Nat) (hn : n ≤ l.length) (h0 : 0 < l.length) : BS w (.slice A n c) (l.take n) := by
  obtain ⟨A', c', hv, h1, h2, hp⟩ := h
  injection hv with hA _ hc
  subst hA
  subst hc
  have hl : (l.take n).length = n := List.length_take_of_le hn
  obtain ⟨g, o, e, hcell⟩ := hp h0
  refine ⟨A, c, by rw [hl], by omega, h2, fun _ => ⟨g, o, e, fun j hj => ?_⟩⟩
  rw [hcell j (by omega), List.getElem_take]

set_option maxHeartbeats 4000000 in
set_option maxRecDepth 100000 in
theorem fnCut_any (u : Value) (xs : List PkgD) (n : Int) (a : Addr) (w : World) (hl1 : xs.length ≤ 9223372036854775807) (hw1 : ∀ p ∈ xs, p.Wide) (hx : PkgsAt w w.heap.size u xs) (hE : Corrupt w a) :
    Calls Tryd.prog 5 #[u, .int .i64 n] w fun e w' => e = .returned (.bool true) ∧ Below w.heap.size w w' := by
  have hX := fun (W : World) (h : Below w.heap.size w W) => PkgsAt.below hx h
  have F1 := Lib.hid (fun (W : World) (h : Below w.heap.size w W) => fits1_any w.heap.size u xs W h.size hl1 hw1 (hX W h))
  have O1 := Lib.hid (fun (W : World) (h : Below w.heap.size w W) => indexOk_any w.heap.size u xs W h.size hl1 hw1 (hX W h))
  have E1 := Lib.hid (fun (W : World) (h : Below w.heap.size w W) (hok : PkgsOk xs) => encode_any w.heap.size u xs W h.size hok (hX W h))
  have HX := Lib.hid hX
  have HW := Lib.hid hw1
  obtain ⟨A, c, rfl⟩ := ListAt.form hx
  have hb0 : Below w.heap.size w w := Below.refl _ _
  have HE := Lib.hid hE
  clear hE
  clear hx hX hw1
  go_enter Tryd.func5, Tryd.ntmps5
  go_wp2_with fail
  refine (F1.out _ hb0).mono ?_
  rintro e w1 ⟨b1, rfl, hc1⟩
  have hb1 := hb0.trans (hc1.mono hb0.size)
  clear hc1
  cases b1
  case' false =>
    go_wp2_with fail
    go_ret
    exact ⟨rfl, hb1⟩
  go_wp2_with fail
  refine (O1.out _ hb1).mono ?_
  rintro e w3 ⟨b3, rfl, hc3, hs3⟩
  have hb3 := hb1.trans (hc3.mono hb1.size)
  have HS3 := Lib.hid hs3
  clear hc3 hs3
  cases b3
  case' false =>
    go_wp2_with fail
    go_ret
    exact ⟨rfl, hb3⟩
  by_cases hn0 : n < 0
  · clear F1 O1 E1
    go_wp2_with fail
    go_ret
    exact ⟨rfl, hb3⟩
  by_cases hn1 : 10 < n
  · clear F1 O1 E1
    go_wp2_with fail
    go_ret
    exact ⟨rfl, hb3⟩
  have hp1 := (HS3.out (by simp)).1
  have hl2 := hp1.len
  have HP := Lib.hid hp1
  have HIX := Lib.hid (enc_is xs hp1)
  have hpos := enc_pos xs hp1
  have D1 := Lib.hid (fun W h => E1.out W h hp1)
  have hp0 := hpos.1
  have hp8 := hpos.2
  clear HS3 hp1 hpos hb0 hb1 hl1
  have hlen : 20 ≤ (enc xs).length := by
    obtain ⟨b, t, e, _, _, _, _, _, h, _⟩ := HIX.out
    rw [e, List.length_append]
    omega
  generalize enc xs = l at *
  go_wp2_with fail
  refine (D1.out _ hb3).mono ?_
  rintro e w5 ⟨v1, rfl, ho1, hc5⟩
  have hb5 := hb3.trans (hc5.mono hb3.size)
  obtain ⟨A1, c1, rfl⟩ := own_form' ho1
  have HB5 := Lib.hid hb5
  have HO1 := Lib.hid ho1
  clear hc5 D1 hb3 hb5 ho1
  obtain ⟨m, rfl⟩ : ∃ m : Nat, n = (m : Int) := ⟨n.toNat, by omega⟩
  have hm10 : m ≤ 10 := by omega
  have hnl : ¬ (l.length : Int) ≤ (m : Int) := by omega
  have hm0 : (0 : Int) ≤ (m : Int) := by omega
  have hcl : l.length ≤ c1 := by
    rcases HO1.out.2 with ⟨_, h⟩ | ⟨g, cap, cur, hv, _, _, h1, _⟩
    · omega
    · injection hv with _ _ h
      omega
  have hmc : (m : Int) ≤ (c1 : Int) := by omega
  have hbs := bs_of_own HO1.out
  have hlt := HE.out.lt
  have hE5 := HE.out.below HB5.out hlt
  have hfr := hbs.front m (by omega) (by omega)
  have hpre := short_other (l.take m) (by rw [List.length_take]; omega)
  have DB := Lib.hid (decode_bad _ _ a w5 hE5 hfr hpre (by rw [List.length_take]; omega))
  have DO := Lib.hid (fun (W : World) (h : Below w5.heap.size w5 W) => implDecode_ok _ l xs W (hbs.below h) HIX.out hl2 HP.out.each (by omega))
  clear hbs hE5 hfr hpre hn0 hn1
  go_wp2_with fail
  refine DB.out.mono ?_
  rintro e w6 ⟨u6, rfl, hb6⟩
  have HB6 := Lib.hid hb6
  clear hb6
  go_wp2_with fail
  refine (DO.out _ HB6.out).mono ?_
  rintro e w7 ⟨A7, c7, rfl, ho7, hb7⟩
  have HBL := Lib.hid (HB5.out.trans ((HB6.out.trans (hb7.mono HB6.out.size)).mono HB5.out.size))
  clear ho7 hb7
  go_wp2_with fail
  go_ret
  exact ⟨rfl, HBL.out⟩
end Go.Proofs.YtanfimeajalffaaDoor
