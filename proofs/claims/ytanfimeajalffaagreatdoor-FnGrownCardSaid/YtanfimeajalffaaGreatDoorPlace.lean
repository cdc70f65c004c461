/-
  The contract of spec.Place, and what it says beside the search. Conditions: packages as they lie in memory, in the order of their folders.
-/
import Derived.Test.YtanfimeajalffaaGreatDoorFindOk
import Derived.Test.YtanfimeajalffaaGreatDoorSames2
import Derived.Test.YtanfimeajalffaaGreatDoorLawBase
namespace Go.Proofs.YtanfimeajalffaaGreatDoor
open Go.RowKit

/-- The place of a folder among packages. -/
def Placed (ps : List PkgD) (d : ByteArray) (w : World) (e : Ending) (w' : World) : Prop :=
  Below w.heap.size w w' ∧ ((e = .returned (.int .i64 (-1)) ∧ ∀ q ∈ ps, q.dir ≠ d) ∨ ∃ (k : Nat) (h : k < ps.length), e = .returned (.int .i64 (k : Int)) ∧ ps[k].dir = d)

theorem dir_once {ps : List PkgD} (h : Strict ps) (i j : Nat) (hi : i < ps.length) (hj : j < ps.length) (e : ps[i].dir = ps[j].dir) : i = j := by
  rcases Nat.lt_trichotomy i j with h1 | h1 | h1
  · have := h.lt i j hj h1
    rw [e, cmp_refl] at this
    omega
  · exact h1
  · have := h.lt j i hi h1
    rw [e, cmp_refl] at this
    omega
/-- The package of a folder that has its place is the one there. -/
theorem Its.at_ {ps : List PkgD} {d : ByteArray} {p : PkgD} (h : Its ps d p) (hst : Strict ps) (k : Nat) (hk : k < ps.length) (hd : ps[k].dir = d) : p = ps[k] := by
  rcases h with ⟨hm, he⟩ | ⟨_, hno⟩
  · obtain ⟨i, hi, rfl⟩ := List.getElem_of_mem hm
    have := dir_once hst i k hi hk (he.trans hd.symm)
    subst this
    rfl
  · exact absurd hd (hno _ (List.getElem_mem hk))
theorem Its.none_ {ps : List PkgD} {d : ByteArray} {p : PkgD} (h : Its ps d p) (hno : ∀ q ∈ ps, q.dir ≠ d) : p = noPkg := by
  rcases h with ⟨hm, he⟩ | ⟨h, _⟩
  · exact absurd he (hno _ hm)
  · exact h

set_option maxHeartbeats 1000000 in
theorem place_any (B : Nat) (v : Value) (ps : List PkgD) (d : ByteArray) (w : World) (hB : B ≤ w.heap.size) (hl : ps.length ≤ 9223372036854775807) (hv : PkgsAt w B v ps) :
    Calls Tryz.prog 14 #[v, .string d] w (Placed ps d w) := by
  obtain ⟨A, c, rfl⟩ := ListAt.form hv
  have HV := Lib.hid hv
  clear hv
  go_enter Tryz.func14, Tryz.ntmps14
  go_wp2_with fail
  go_loopw [9] (fun i wr => ∃ k : Nat, k ≤ ps.length ∧ i = .int .i64 k ∧ Below w.heap.size w wr ∧ ∀ q ∈ ps.take k, q.dir ≠ d) (fun i _ => ps.length - (intOf i).toNat)
  case atStart => exact ⟨0, Nat.zero_le _, rfl, Below.refl _ _, by simp⟩
  case round =>
    obtain ⟨k, hk, rfl, hF, hall⟩ := hrel
    have hsz := hF.size
    by_cases hlt : k < ps.length
    · obtain ⟨gp, op, cs, rfl, hgp, _, ⟨vf, rfl, hfs⟩, hcell⟩ := (PkgsAt.below HV.out (hF.mono hB)).get (by omega) k hlt
      have c0 : wr.cell? ⟨gp, op + k * 3, none⟩ = some (.string ps[k].err) := hcell 0 _ rfl
      have c1 : wr.cell? ⟨gp, op + k * 3 + 1, none⟩ = some (.string ps[k].dir) := hcell 1 _ rfl
      have c2 : wr.cell? ⟨gp, op + k * 3 + 2, none⟩ = some vf := hcell 2 _ rfl
      obtain ⟨Af, cf, rfl⟩ := hfs.form
      by_cases hd : ps[k].dir = d
      · have HP : Hid (Placed ps d w (.returned (.int .i64 (k : Int))) (wr.alloc (.cells #[.string ps[k].err, .string ps[k].dir, .slice Af ps[k].files.length cf] 32))) := Lib.hid ⟨hF.alloc hsz _, .inr ⟨k, hlt, rfl, hd⟩⟩
        have hd2 : ps[k].dir.toList = d.toList := by rw [hd]
        clear hcell hfs hall hd
        generalize ps[k] = p at *
        go_wp2_with fail
        go_ret
        exact HP.out
      · have hne := bytes_ne hd
        have hneB : (ps[k].dir.toList == d.toList) = false := by simpa using hne
        have hall' : ∀ q ∈ ps.take (k + 1), q.dir ≠ d := fun q hq => by
          rw [take_snoc' ps k hlt, List.mem_append] at hq
          rcases hq with hq | hq
          · exact hall q hq
          · simp at hq
            rw [hq]
            exact hd
        have HALL := Lib.hid hall'
        have HF2 := Lib.hid (hF.alloc hsz (.cells #[.string ps[k].err, .string ps[k].dir, .slice Af ps[k].files.length cf] 32))
        clear hcell hfs hall hd hall'
        generalize ps[k] = p at *
        go_wp2_with fail
        go_roundw
        case rel => exact ⟨k + 1, by omega, by go_num, HF2.out, HALL.out⟩
        case measure => simp [intOf]; omega
    · have hkl : k = ps.length := by omega
      subst hkl
      rw [List.take_length] at hall
      have HP : Hid (Placed ps d w (.returned (.int .i64 (-1))) wr) := Lib.hid ⟨hF, .inl ⟨rfl, hall⟩⟩
      clear hall
      go_wp2_with fail
      go_ret
      exact HP.out
end Go.Proofs.YtanfimeajalffaaGreatDoor
