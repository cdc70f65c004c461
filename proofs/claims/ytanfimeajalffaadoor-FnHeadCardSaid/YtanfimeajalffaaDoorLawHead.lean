/-
  FnHead: the law returns true, and leaves what was there. Conditions: packages as they lie in memory, a byte, the package's error laid.
-/
import Derived.Test.YtanfimeajalffaaDoorLawBase
import Derived.Test.YtanfimeajalffaaDoorBad
namespace Go.Proofs.YtanfimeajalffaaDoor
open Go.RowKit

/-- An index begins as an index does. -/
theorem enc_head (ps : List PkgD) (h : PkgsOk ps) : ∃ r, enc ps = magic ++ r := by
  obtain ⟨b, t, e, h1, _⟩ := enc_is ps h
  refine ⟨b.drop 12 ++ t, ?_⟩
  rw [e, ← List.append_assoc, ← h1, List.take_append_drop]
theorem head_other (r : List UInt8) (x : UInt8) (hx : x ≠ 103) : Lib.hasPrefix ((magic ++ r).set 0 x) magic = false := by
  unfold Lib.hasPrefix magic
  simp [List.isPrefixOf]
  intro h
  exact absurd h.symm hx

set_option maxHeartbeats 4000000 in
set_option maxRecDepth 100000 in
theorem fnHead_any (u : Value) (xs : List PkgD) (x : UInt8) (a : Addr) (w : World) (hl1 : xs.length ≤ 9223372036854775807) (hw1 : ∀ p ∈ xs, p.Wide) (hx : PkgsAt w w.heap.size u xs) (hE : Corrupt w a) :
    Calls Tryd.prog 6 #[u, .int .u8 (x.toNat : Int)] w fun e w' => e = .returned (.bool true) ∧ Below w.heap.size w w' := by
  have hX := fun (W : World) (h : Below w.heap.size w W) => PkgsAt.below hx h
  have F1 := Lib.hid (fun (W : World) (h : Below w.heap.size w W) => fits1_any w.heap.size u xs W h.size hl1 hw1 (hX W h))
  have O1 := Lib.hid (fun (W : World) (h : Below w.heap.size w W) => indexOk_any w.heap.size u xs W h.size hl1 hw1 (hX W h))
  have E1 := Lib.hid (fun (W : World) (h : Below w.heap.size w W) (hok : PkgsOk xs) => encode_any w.heap.size u xs W h.size hok (hX W h))
  obtain ⟨A, c, rfl⟩ := ListAt.form hx
  have hb0 : Below w.heap.size w w := Below.refl _ _
  have HE := Lib.hid hE
  have hx0 : (0 : Int) ≤ (x.toNat : Int) := by omega
  have hx1 : (x.toNat : Int) < 256 := by have := x.toNat_lt; omega
  clear hx hX hw1 hE
  go_enter Tryd.func6, Tryd.ntmps6
  go_wp2_with fail
  refine (F1.out _ hb0).mono ?_
  rintro e w1 ⟨b1, rfl, hc1⟩
  have hb1 := hb0.trans (hc1.mono hb0.size)
  clear hc1
  cases b1
  case' false =>
    go_wp2_with fail
    go_ret
    exact ⟨rfl, hb1⟩
  go_wp2_with fail
  refine (O1.out _ hb1).mono ?_
  rintro e w3 ⟨b3, rfl, hc3, hs3⟩
  have hb3 := hb1.trans (hc3.mono hb1.size)
  have HS3 := Lib.hid hs3
  clear hc3 hs3
  cases b3
  case' false =>
    go_wp2_with fail
    go_ret
    exact ⟨rfl, hb3⟩
  have hp1 := (HS3.out (by simp)).1
  obtain ⟨r, hr⟩ := enc_head xs hp1
  have hpos := enc_pos xs hp1
  have D1 := Lib.hid (fun W h => E1.out W h hp1)
  clear HS3 hp1
  rw [hr] at hpos D1
  clear hr
  obtain ⟨hp0, hp8⟩ := hpos
  have hp3 : (0 : Int) < ((magic ++ r).length : Int) := by omega
  have hp4 : ¬ ((magic ++ r).length : Int) = 0 := by omega
  clear hb0 hb1
  have HM : Hid (∀ y : UInt8, y ≠ 103 → Lib.hasPrefix ((magic ++ r).set 0 y) magic = false) := Lib.hid (head_other r)
  have hm0 : Hid ((Lib.byteCells (magic ++ r))[0]? = some (.int .u8 103)) := Lib.hid rfl
  generalize magic ++ r = l at *
  go_wp2_with fail
  refine (D1.out _ hb3).mono ?_
  rintro e w5 ⟨v1, rfl, ho1, hc5⟩
  have hb5 := hb3.trans (hc5.mono hb3.size)
  obtain ⟨g, c1, rfl, hg1, hg2⟩ := ho1.form hp0
  have hcell : w5.cell? ⟨g, 0, none⟩ = some (.int .u8 103) := by
    rw [ho1.cellAt 0 (by omega)]
    exact hm0.out
  have hfz : w5.frozen? ⟨g, 0, none⟩ = false := by
    rcases ho1.2 with ⟨h1, _⟩ | ⟨g', cap, cur, h1, _, h2, _⟩
    · cases h1
    · injection h1 with h1
      injection h1 with h1
      injection h1 with h1 _ _
      subst h1
      exact Blk.frozen (t := 5) (cs := cur) h2 0
  by_cases hne : x = 103
  · subst hne
    clear D1 hc5
    go_wp2_with fail
    go_ret
    exact ⟨rfl, hb5⟩
  · have hxn : ¬ (103 : Int) = (x.toNat : Int) := by
      intro e
      apply hne
      have : x.toNat = 103 := by omega
      exact UInt8.toNat_inj.1 this
    have hxn2 : ¬ (x.toNat : Int) = 103 := fun e => hxn e.symm
    have hst := (ho1.stored 0 (.int .u8 (x.toNat : Int))).1
    rw [← bc_set] at hst
    have hlen : (l.set 0 x).length = l.length := List.length_set
    have hbs : BS (w5.setCell ⟨g, 0, none⟩ (.int .u8 (x.toNat : Int))) (.slice (some ⟨g, 0, none⟩) l.length c1) (l.set 0 x) := bs_of_own hst
    have hbF : Below w.heap.size w (w5.setCell ⟨g, 0, none⟩ (.int .u8 (x.toNat : Int))) := hb5.setCell (Nat.le_trans hb3.size hg1) _
    have hpre := HM.out x hne
    have HD := Lib.hid (decode_bad _ _ a _ (HE.out.below hbF HE.out.lt) hbs hpre (by rw [hlen]; omega))
    have HR := Lib.hid (fun (W : World) (h : Below (w5.setCell ⟨g, 0, none⟩ (.int .u8 (x.toNat : Int))).heap.size (w5.setCell ⟨g, 0, none⟩ (.int .u8 (x.toNat : Int))) W) => dirs_bad _ _ a W ((HE.out.below hbF HE.out.lt).below h (Nat.lt_of_lt_of_le HE.out.lt hbF.size)) (hbs.below h) hpre (by rw [hlen]; omega))
    have HBF := Lib.hid hbF
    clear hst hlen hbs hbF hpre HM D1 ho1 hc5 hne
    go_wp2_with fail
    refine HD.out.mono ?_
    rintro e w6 ⟨u6, rfl, hb6⟩
    have HB6 := Lib.hid hb6
    clear hb6
    go_wp2_with fail
    refine (HR.out _ HB6.out).mono ?_
    rintro e w7 ⟨u7, rfl, hb7⟩
    have hbl := HBF.out.trans ((HB6.out.trans (hb7.mono HB6.out.size)).mono HBF.out.size)
    clear hb7
    go_wp2_with fail
    go_ret
    exact ⟨rfl, hbl⟩
end Go.Proofs.YtanfimeajalffaaDoor
