/-
  The methods of a source file: its words, read. Condition: what stands at its place (ItsAt .. (headIts f)).
-/
import Derived.Test.YtanfimeajalffaaDoorDec
import Derived.IntWalk
namespace Go.Proofs.YtanfimeajalffaaDoor
open Go.RowKit

def SfAt (w : World) (gs gd p : Nat) : Prop := Blk w gs 132 #[.pointer (some ⟨gd, 0, none⟩), .int .i64 (p : Int)]
theorem SfAt.drewN {w : World} {gs gd p : Nat} (h : SfAt w gs gd p) (k : Nat) : SfAt (w.drewN k) gs gd p := h
theorem wrap64_in (x : Int) (h0 : 0 ≤ x) (h1 : x ≤ 9223372036854775807) : IntKind.i64.wrap x = x := IntWalk.i64_in x (by omega)

set_option maxHeartbeats 400000 in
theorem sf_error (gs gd p : Nat) (f : FileD) (b t : List UInt8) (w : World) (hs : SfAt w gs gd p) (hd : DecAt w gd b t) (h : ItsAt b t p (headIts f)) :
    Calls Tryd.prog 48 #[.pointer (some ⟨gs, 0, none⟩)] w fun e w' => e = .returned (.string f.err) ∧ ∃ k, w' = w.drewN k := by
  have h0 := h 0 _ rfl
  have hl := h0.lt
  have hm := hd.len.1
  have C := Lib.hid (fun k => string_at gd (p + 4 * 0) f.err b t (w.drewN k) hd h0)
  rw [show ((p + 4 * 0 : Nat) : Int) = (p : Int) from by omega] at C
  have c0 : w.cell? ⟨gs, 0, none⟩ = some (.pointer (some ⟨gd, 0, none⟩)) := hs.cell 0
  have c1 : w.cell? ⟨gs, 1, none⟩ = some (.int .i64 (p : Int)) := hs.cell 1
  have hw := wrap64_in ((p : Int)) (by omega) (by omega)
  clear hs hd h h0 hl hm
  generalize f.err = x at C ⊢
  go_enter Tryd.func48, Tryd.ntmps48
  go_wp2_with fail
  go_quiet ((go_at_call 70; exact Calls.quiet_of (C.out _)))
  go_wp2_with fail
  go_ret
  exact ⟨rfl, nq, rfl⟩

set_option maxHeartbeats 400000 in
theorem sf_parseError (gs gd p : Nat) (f : FileD) (b t : List UInt8) (w : World) (hs : SfAt w gs gd p) (hd : DecAt w gd b t) (h : ItsAt b t p (headIts f)) :
    Calls Tryd.prog 49 #[.pointer (some ⟨gs, 0, none⟩)] w fun e w' => e = .returned (.string f.perr) ∧ ∃ k, w' = w.drewN k := by
  have h0 := h 1 _ rfl
  have hl := h0.lt
  have hm := hd.len.1
  have C := Lib.hid (fun k => string_at gd (p + 4 * 1) f.perr b t (w.drewN k) hd h0)
  rw [show ((p + 4 * 1 : Nat) : Int) = (p : Int) + 4 from by omega] at C
  have c0 : w.cell? ⟨gs, 0, none⟩ = some (.pointer (some ⟨gd, 0, none⟩)) := hs.cell 0
  have c1 : w.cell? ⟨gs, 1, none⟩ = some (.int .i64 (p : Int)) := hs.cell 1
  have hw := wrap64_in ((p : Int) + 4) (by omega) (by omega)
  clear hs hd h h0 hl hm
  generalize f.perr = x at C ⊢
  go_enter Tryd.func49, Tryd.ntmps49
  go_wp2_with fail
  go_quiet ((go_at_call 70; exact Calls.quiet_of (C.out _)))
  go_wp2_with fail
  go_ret
  exact ⟨rfl, nq, rfl⟩

set_option maxHeartbeats 400000 in
theorem sf_synopsis (gs gd p : Nat) (f : FileD) (b t : List UInt8) (w : World) (hs : SfAt w gs gd p) (hd : DecAt w gd b t) (h : ItsAt b t p (headIts f)) :
    Calls Tryd.prog 51 #[.pointer (some ⟨gs, 0, none⟩)] w fun e w' => e = .returned (.string f.syn) ∧ ∃ k, w' = w.drewN k := by
  have h0 := h 2 _ rfl
  have hl := h0.lt
  have hm := hd.len.1
  have C := Lib.hid (fun k => string_at gd (p + 4 * 2) f.syn b t (w.drewN k) hd h0)
  rw [show ((p + 4 * 2 : Nat) : Int) = (p : Int) + 8 from by omega] at C
  have c0 : w.cell? ⟨gs, 0, none⟩ = some (.pointer (some ⟨gd, 0, none⟩)) := hs.cell 0
  have c1 : w.cell? ⟨gs, 1, none⟩ = some (.int .i64 (p : Int)) := hs.cell 1
  have hw := wrap64_in ((p : Int) + 8) (by omega) (by omega)
  clear hs hd h h0 hl hm
  generalize f.syn = x at C ⊢
  go_enter Tryd.func51, Tryd.ntmps51
  go_wp2_with fail
  go_quiet ((go_at_call 70; exact Calls.quiet_of (C.out _)))
  go_wp2_with fail
  go_ret
  exact ⟨rfl, nq, rfl⟩

set_option maxHeartbeats 400000 in
theorem sf_name (gs gd p : Nat) (f : FileD) (b t : List UInt8) (w : World) (hs : SfAt w gs gd p) (hd : DecAt w gd b t) (h : ItsAt b t p (headIts f)) :
    Calls Tryd.prog 50 #[.pointer (some ⟨gs, 0, none⟩)] w fun e w' => e = .returned (.string f.name) ∧ ∃ k, w' = w.drewN k := by
  have h0 := h 3 _ rfl
  have hl := h0.lt
  have hm := hd.len.1
  have C := Lib.hid (fun k => string_at gd (p + 4 * 3) f.name b t (w.drewN k) hd h0)
  rw [show ((p + 4 * 3 : Nat) : Int) = (p : Int) + 12 from by omega] at C
  have c0 : w.cell? ⟨gs, 0, none⟩ = some (.pointer (some ⟨gd, 0, none⟩)) := hs.cell 0
  have c1 : w.cell? ⟨gs, 1, none⟩ = some (.int .i64 (p : Int)) := hs.cell 1
  have hw := wrap64_in ((p : Int) + 12) (by omega) (by omega)
  clear hs hd h h0 hl hm
  generalize f.name = x at C ⊢
  go_enter Tryd.func50, Tryd.ntmps50
  go_wp2_with fail
  go_quiet ((go_at_call 70; exact Calls.quiet_of (C.out _)))
  go_wp2_with fail
  go_ret
  exact ⟨rfl, nq, rfl⟩

set_option maxHeartbeats 400000 in
theorem sf_pkgName (gs gd p : Nat) (f : FileD) (b t : List UInt8) (w : World) (hs : SfAt w gs gd p) (hd : DecAt w gd b t) (h : ItsAt b t p (headIts f)) :
    Calls Tryd.prog 52 #[.pointer (some ⟨gs, 0, none⟩)] w fun e w' => e = .returned (.string f.pkg) ∧ ∃ k, w' = w.drewN k := by
  have h0 := h 4 _ rfl
  have hl := h0.lt
  have hm := hd.len.1
  have C := Lib.hid (fun k => string_at gd (p + 4 * 4) f.pkg b t (w.drewN k) hd h0)
  rw [show ((p + 4 * 4 : Nat) : Int) = (p : Int) + 16 from by omega] at C
  have c0 : w.cell? ⟨gs, 0, none⟩ = some (.pointer (some ⟨gd, 0, none⟩)) := hs.cell 0
  have c1 : w.cell? ⟨gs, 1, none⟩ = some (.int .i64 (p : Int)) := hs.cell 1
  have hw := wrap64_in ((p : Int) + 16) (by omega) (by omega)
  clear hs hd h h0 hl hm
  generalize f.pkg = x at C ⊢
  go_enter Tryd.func52, Tryd.ntmps52
  go_wp2_with fail
  go_quiet ((go_at_call 70; exact Calls.quiet_of (C.out _)))
  go_wp2_with fail
  go_ret
  exact ⟨rfl, nq, rfl⟩

set_option maxHeartbeats 400000 in
theorem sf_ignoreFile (gs gd p : Nat) (f : FileD) (b t : List UInt8) (w : World) (hs : SfAt w gs gd p) (hd : DecAt w gd b t) (h : ItsAt b t p (headIts f)) :
    Calls Tryd.prog 53 #[.pointer (some ⟨gs, 0, none⟩)] w fun e w' => e = .returned (.bool f.ign) ∧ ∃ k, w' = w.drewN k := by
  have h0 := h 5 _ rfl
  have hl := h0.lt
  have hm := hd.len.1
  have C := Lib.hid (fun k => bool_at gd (p + 4 * 5) f.ign b t (w.drewN k) hd h0)
  rw [show ((p + 4 * 5 : Nat) : Int) = (p : Int) + 20 from by omega] at C
  have c0 : w.cell? ⟨gs, 0, none⟩ = some (.pointer (some ⟨gd, 0, none⟩)) := hs.cell 0
  have c1 : w.cell? ⟨gs, 1, none⟩ = some (.int .i64 (p : Int)) := hs.cell 1
  have hw := wrap64_in ((p : Int) + 20) (by omega) (by omega)
  clear hs hd h h0 hl hm
  generalize f.ign = x at C ⊢
  go_enter Tryd.func53, Tryd.ntmps53
  go_wp2_with fail
  go_quiet ((go_at_call 78; exact Calls.quiet_of (C.out _)))
  go_wp2_with fail
  go_ret
  exact ⟨rfl, nq, rfl⟩

set_option maxHeartbeats 400000 in
theorem sf_binaryOnly (gs gd p : Nat) (f : FileD) (b t : List UInt8) (w : World) (hs : SfAt w gs gd p) (hd : DecAt w gd b t) (h : ItsAt b t p (headIts f)) :
    Calls Tryd.prog 54 #[.pointer (some ⟨gs, 0, none⟩)] w fun e w' => e = .returned (.bool f.bin) ∧ ∃ k, w' = w.drewN k := by
  have h0 := h 6 _ rfl
  have hl := h0.lt
  have hm := hd.len.1
  have C := Lib.hid (fun k => bool_at gd (p + 4 * 6) f.bin b t (w.drewN k) hd h0)
  rw [show ((p + 4 * 6 : Nat) : Int) = (p : Int) + 24 from by omega] at C
  have c0 : w.cell? ⟨gs, 0, none⟩ = some (.pointer (some ⟨gd, 0, none⟩)) := hs.cell 0
  have c1 : w.cell? ⟨gs, 1, none⟩ = some (.int .i64 (p : Int)) := hs.cell 1
  have hw := wrap64_in ((p : Int) + 24) (by omega) (by omega)
  clear hs hd h h0 hl hm
  generalize f.bin = x at C ⊢
  go_enter Tryd.func54, Tryd.ntmps54
  go_wp2_with fail
  go_quiet ((go_at_call 78; exact Calls.quiet_of (C.out _)))
  go_wp2_with fail
  go_ret
  exact ⟨rfl, nq, rfl⟩

set_option maxHeartbeats 400000 in
theorem sf_cgoDirectives (gs gd p : Nat) (f : FileD) (b t : List UInt8) (w : World) (hs : SfAt w gs gd p) (hd : DecAt w gd b t) (h : ItsAt b t p (headIts f)) :
    Calls Tryd.prog 55 #[.pointer (some ⟨gs, 0, none⟩)] w fun e w' => e = .returned (.string f.cgo) ∧ ∃ k, w' = w.drewN k := by
  have h0 := h 7 _ rfl
  have hl := h0.lt
  have hm := hd.len.1
  have C := Lib.hid (fun k => string_at gd (p + 4 * 7) f.cgo b t (w.drewN k) hd h0)
  rw [show ((p + 4 * 7 : Nat) : Int) = (p : Int) + 28 from by omega] at C
  have c0 : w.cell? ⟨gs, 0, none⟩ = some (.pointer (some ⟨gd, 0, none⟩)) := hs.cell 0
  have c1 : w.cell? ⟨gs, 1, none⟩ = some (.int .i64 (p : Int)) := hs.cell 1
  have hw := wrap64_in ((p : Int) + 28) (by omega) (by omega)
  clear hs hd h h0 hl hm
  generalize f.cgo = x at C ⊢
  go_enter Tryd.func55, Tryd.ntmps55
  go_wp2_with fail
  go_quiet ((go_at_call 70; exact Calls.quiet_of (C.out _)))
  go_wp2_with fail
  go_ret
  exact ⟨rfl, nq, rfl⟩

set_option maxHeartbeats 400000 in
theorem sf_goBuildConstraint (gs gd p : Nat) (f : FileD) (b t : List UInt8) (w : World) (hs : SfAt w gs gd p) (hd : DecAt w gd b t) (h : ItsAt b t p (headIts f)) :
    Calls Tryd.prog 56 #[.pointer (some ⟨gs, 0, none⟩)] w fun e w' => e = .returned (.string f.con) ∧ ∃ k, w' = w.drewN k := by
  have h0 := h 8 _ rfl
  have hl := h0.lt
  have hm := hd.len.1
  have C := Lib.hid (fun k => string_at gd (p + 4 * 8) f.con b t (w.drewN k) hd h0)
  rw [show ((p + 4 * 8 : Nat) : Int) = (p : Int) + 32 from by omega] at C
  have c0 : w.cell? ⟨gs, 0, none⟩ = some (.pointer (some ⟨gd, 0, none⟩)) := hs.cell 0
  have c1 : w.cell? ⟨gs, 1, none⟩ = some (.int .i64 (p : Int)) := hs.cell 1
  have hw := wrap64_in ((p : Int) + 32) (by omega) (by omega)
  clear hs hd h h0 hl hm
  generalize f.con = x at C ⊢
  go_enter Tryd.func56, Tryd.ntmps56
  go_wp2_with fail
  go_quiet ((go_at_call 70; exact Calls.quiet_of (C.out _)))
  go_wp2_with fail
  go_ret
  exact ⟨rfl, nq, rfl⟩

end Go.Proofs.YtanfimeajalffaaDoor
