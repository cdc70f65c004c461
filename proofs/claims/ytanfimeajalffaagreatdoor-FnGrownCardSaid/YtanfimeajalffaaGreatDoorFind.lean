/-
  The package of a folder, looked up: the closure that Module.Package hands to sort.Find, sort.Find, Module.Package. Conditions: what stands in the index (Idx), its folders in their order.
-/
import Derived.Test.YtanfimeajalffaaGreatDoorPkg
import Derived.Test.YtanfimeajalffaaGreatDoorSearch
namespace Go.Proofs.YtanfimeajalffaaGreatDoor
open Go.RowKit

set_option maxHeartbeats 1000000 in
/-- What the closure that Module.Package hands to sort.Find tells. -/
theorem cmpFn_any (gq g2 gm gd : Nat) (d : ByteArray) (ps : List PkgD) (b t : List UInt8) (w : World) (k : Nat) (hk : k < ps.length) (hq : Blk w gq 9 #[.string d]) (h2 : Blk w g2 64 #[.pointer (some ⟨gm, 0, none⟩)]) (hm : ModAt w gm gd ps.length) (hd : DecAt w gd b t) (hi : Idx b t ps) :
    Calls Tryz.prog 70 #[.int .i64 (k : Int), .pointer (some ⟨gq, 0, none⟩), .pointer (some ⟨g2, 0, none⟩)] w fun e w' => e = .returned (.int .i64 (cmpAt ps d k hk)) ∧ ∃ j, w' = w.drewN j := by
  have C := Lib.hid (fun n => pkgDir_any gm gd ps b t (w.drewN n) k hk hm hd hi)
  have c0 : w.cell? ⟨gq, 0, none⟩ = some (.string d) := hq.cell 0
  have c2 : w.cell? ⟨g2, 0, none⟩ = some (.pointer (some ⟨gm, 0, none⟩)) := h2.cell 0
  unfold cmpAt
  generalize ps[k].dir = x at *
  have CC := Lib.hid (fun (W : World) => Tryz.strings_Compare d x W)
  clear hq h2 hm hd hi
  go_enter Tryz.func70, Tryz.ntmps70
  go_wp2_with fail
  go_quiet (first | (go_at_call 71; exact Calls.quiet_of (C.out _)) | (go_at_call 64; exact Calls.quiet_of_same (CC.out _)))
  go_wp2_with fail
  go_ret
  exact ⟨rfl, nq, rfl⟩

/-- What the search gives. -/
def Searched (ps : List PkgD) (d : ByteArray) (w : World) (e : Ending) (w' : World) : Prop :=
  ∃ (i : Nat) (f : Bool) (j : Nat), e = .returned (.tuple #[.int .i64 (i : Int), .bool f]) ∧ w' = w.drewN j ∧ i ≤ ps.length ∧ Lo ps d i ∧ Hi ps d i ∧ (f = true ↔ ∃ h : i < ps.length, cmpAt ps d i h = 0)

set_option maxHeartbeats 2000000 in
set_option maxRecDepth 100000 in
theorem sortFind_any (gq g2 gm gd : Nat) (d : ByteArray) (ps : List PkgD) (b t : List UInt8) (w : World) (hst : Strict ps) (hq : Blk w gq 9 #[.string d]) (h2 : Blk w g2 64 #[.pointer (some ⟨gm, 0, none⟩)]) (hm : ModAt w gm gd ps.length) (hd : DecAt w gd b t) (hi : Idx b t ps) :
    Calls Tryz.prog 69 #[.int .i64 (ps.length : Int), .func (.func 70) #[] #[.pointer (some ⟨gq, 0, none⟩), .pointer (some ⟨g2, 0, none⟩)]] w (Searched ps d w) := by
  have CM := Lib.hid (fun (n k : Nat) (hk : k < ps.length) => cmpFn_any gq g2 gm gd d ps b t (w.drewN n) k hk hq h2 hm hd hi)
  have HST := Lib.hid hst
  have hn := hi.n
  clear hst hq h2 hm hd hi
  go_enter Tryz.func69, Tryz.ntmps69
  go_wp2_with fail
  go_loopw [4, 6] (fun a c wr => ∃ i j k : Nat, a = .int .i64 i ∧ c = .int .i64 j ∧ i ≤ j ∧ j ≤ ps.length ∧ Lo ps d i ∧ Hi ps d j ∧ wr = w.drewN k) (fun a c _ => (intOf c - intOf a).toNat)
  case atStart => exact ⟨0, ps.length, 0, rfl, rfl, Nat.zero_le _, Nat.le_refl _, fun k hk h => absurd h (Nat.not_lt_zero _), fun k hk h => absurd hk (by omega), rfl⟩
  case round =>
    obtain ⟨i, j, k, rfl, rfl, hij, hjn, hlo, hhi, rfl⟩ := hrel
    have HLO := Lib.hid hlo
    have HHI := Lib.hid hhi
    clear hlo hhi
    by_cases hlt : i < j
    · have hh : (i + j) / 2 < ps.length := by omega
      have C := Lib.hid (CM.out k ((i + j) / 2) hh)
      have hh2 : i ≤ (i + j) / 2 ∧ (i + j) / 2 < j := by omega
      by_cases hc : 0 < cmpAt ps d ((i + j) / 2) hh
      · have HL := Lib.hid (Lo.step HST.out _ hh hc)
        generalize cmpAt ps d ((i + j) / 2) hh = v at C hc
        generalize hm' : (i + j) / 2 = m at *
        have hs2 : ((i : Int) + (j : Int)) / 2 = (m : Int) := by omega
        go_wp2_with fail
        refine C.out.mono ?_
        rintro e w2 ⟨rfl, n2, rfl⟩
        clear hm' hs2
        go_wp2_with fail
        go_roundw
        case rel => exact ⟨m + 1, j, k + n2, by go_num, rfl, by omega, hjn, HL.out, HHI.out, rfl⟩
        case measure => simp [intOf]; omega
      · have HH := Lib.hid (Hi.step HST.out ((i + j) / 2) hh (Int.not_lt.1 hc))
        generalize cmpAt ps d ((i + j) / 2) hh = v at C hc
        generalize hm' : (i + j) / 2 = m at *
        have hs2 : ((i : Int) + (j : Int)) / 2 = (m : Int) := by omega
        go_wp2_with fail
        refine C.out.mono ?_
        rintro e w2 ⟨rfl, n2, rfl⟩
        clear hm' hs2
        go_wp2_with fail
        go_roundw
        case rel => exact ⟨i, m, k + n2, rfl, rfl, by omega, by omega, HLO.out, HH.out, rfl⟩
        case measure => simp [intOf]; omega
    · obtain rfl : i = j := by omega
      by_cases hin : i < ps.length
      · have C := Lib.hid (CM.out k i hin)
        by_cases hc : cmpAt ps d i hin = 0
        · have HF := Lib.hid hc
          rw [hc] at C
          clear hc
          go_wp2_with fail
          refine C.out.mono ?_
          rintro e w2 ⟨rfl, n2, rfl⟩
          go_wp2_with fail
          go_ret2
          exact ⟨i, true, k + n2, rfl, rfl, hjn, HLO.out, HHI.out, fun _ => ⟨hin, HF.out⟩, fun _ => rfl⟩
        · have HF := Lib.hid hc
          generalize cmpAt ps d i hin = v at C hc
          go_wp2_with fail
          refine C.out.mono ?_
          rintro e w2 ⟨rfl, n2, rfl⟩
          go_wp2_with fail
          go_ret2
          exact ⟨i, false, k + n2, by simp [hc], rfl, hjn, HLO.out, HHI.out, fun h => (by cases h), fun h => absurd h.2 HF.out⟩
      · have HF := Lib.hid hin
        go_wp2_with fail
        go_ret2
        exact ⟨i, false, k, rfl, rfl, hjn, HLO.out, HHI.out, fun h => (by cases h), fun h => absurd h.1 HF.out⟩
end Go.Proofs.YtanfimeajalffaaGreatDoor
