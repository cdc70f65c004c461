/-
  Contracts of the functions that read numbers and texts out of an index: leUint32, intAt, errors.New, unprotect. Their conditions are the premises of each theorem.
-/
import Derived.Test.YtanfimeajalffaaGreatDoorRows
import Derived.Test.YtanfimeajalffaaGreatDoorGA
import Derived.WalkKit
import Derived.WalkSpells
import Derived.WalkLawsBesides
import Derived.Defers
import Derived.Recover
import Derived.LaidEql
import Derived.Deep.QuietTactic
import Derived.BigQuiet
import Derived.Lib.Endian
import Derived.Lib.EndianBits
import Derived.Lib.Hide
import Derived.Outline
namespace Go.Proofs.YtanfimeajalffaaGreatDoor
open Go.RowKit

set_option maxRecDepth 100000 in
/-- The four bytes at a place, as a number. -/
theorem leNat4 (b0 b1 b2 b3 : UInt8) : ((Lib.leNat [b0, b1, b2, b3] : Nat) : Int) = (b0.toNat : Int) + (b1.toNat : Int) * 256 + (b2.toNat : Int) * 65536 + (b3.toNat : Int) * 16777216 := by
  simp only [Lib.leNat]
  omega

set_option maxHeartbeats 400000 in
theorem leUint32_any (g o n c : Nat) (b0 b1 b2 b3 : UInt8) (w : World) (hn : 4 ≤ n)
    (c0 : w.cell? ⟨g, o, none⟩ = some (.int .u8 b0.toNat)) (c1 : w.cell? ⟨g, o + 1, none⟩ = some (.int .u8 b1.toNat)) (c2 : w.cell? ⟨g, o + 2, none⟩ = some (.int .u8 b2.toNat)) (c3 : w.cell? ⟨g, o + 3, none⟩ = some (.int .u8 b3.toNat)) :
    Calls Tryz.prog 75 #[.slice (some ⟨g, o, none⟩) n c] w fun e w' => e = .returned (.int .u32 (Lib.leNat [b0, b1, b2, b3])) ∧ ∃ k, w' = w.drewN k := by
  have h0 : b0.toNat < 256 := b0.toNat_lt
  have h1 : b1.toNat < 256 := b1.toNat_lt
  have h2 : b2.toNat < 256 := b2.toNat_lt
  have h3 : b3.toNat < 256 := b3.toNat_lt
  have n0 : 0 < n := by omega
  have n1 : (1 : Int) < (n : Int) := by omega
  have n2 : (2 : Int) < (n : Int) := by omega
  have n3 : (3 : Int) < (n : Int) := by omega
  go_enter Tryz.func75, Tryz.ntmps75
  go_wp2
  go_quiet (fail)
  go_wp2
  go_ret
  refine ⟨?_, _, rfl⟩
  rw [leNat4]
  simp (disch := omega) only [u32_or8, u32_or16, u32_or24]
  rfl

/-- What a []byte value holds: its bytes, wherever they lie (nil and empty let in). -/
def BS (w : World) (v : Value) (l : List UInt8) : Prop :=
  ∃ A c, v = .slice A l.length c ∧ l.length ≤ c ∧ c ≤ maxLen ∧ (0 < l.length → ∃ g o, A = some ⟨g, o, none⟩ ∧ ∀ j (hj : j < l.length), w.cell? ⟨g, o + j, none⟩ = some (.int .u8 (l[j]).toNat))

theorem BS.keep {w w' : World} {v : Value} {l : List UInt8} (h : BS w v l) (hk : ∀ p u, w.cell? p = some u → w'.cell? p = some u) : BS w' v l := by
  obtain ⟨A, c, hv, hc, hm, hp⟩ := h
  refine ⟨A, c, hv, hc, hm, fun h0 => ?_⟩
  obtain ⟨g, o, hA, hcell⟩ := hp h0
  exact ⟨g, o, hA, fun j hj => hk _ _ (hcell j hj)⟩

/-- The number of four bytes at a place. -/
def num (l : List UInt8) (k : Nat) : Nat := Lib.leNat ((l.drop k).take 4)

theorem num_eq (l : List UInt8) (k : Nat) (h : k + 4 ≤ l.length) : num l k = Lib.leNat [l[k], l[k + 1], l[k + 2], l[k + 3]] := by
  unfold num
  rw [List.drop_eq_getElem_cons (by omega), List.drop_eq_getElem_cons (by omega), List.drop_eq_getElem_cons (by omega), List.drop_eq_getElem_cons (by omega)]
  rfl

theorem num_lt (l : List UInt8) (k : Nat) (h : k + 4 ≤ l.length) : num l k < 4294967296 := by
  have h0 := (l[k]).toNat_lt
  have h1 := (l[k + 1]).toNat_lt
  have h2 := (l[k + 2]).toNat_lt
  have h3 := (l[k + 3]).toNat_lt
  have := leNat4 l[k] l[k + 1] l[k + 2] l[k + 3]
  rw [num_eq l k h]
  omega

set_option maxHeartbeats 400000 in
/-- intAt, where there is a number. -/
theorem intAt_ok (gd : Nat) (v : Value) (l : List UInt8) (off : Nat) (w : World) (hd : w.cell? ⟨gd, 0, none⟩ = some v) (hb : BS w v l) (h4 : off + 4 ≤ l.length) (hn : num l off < 2147483648) :
    Calls Tryz.prog 38 #[.pointer (some ⟨gd, 0, none⟩), .int .i64 (off : Int)] w fun e w' => e = .returned (.int .i64 (num l off : Int)) ∧ ∃ k, w' = w.drewN k := by
  obtain ⟨A, c, rfl, hc, hm, hp⟩ := hb
  obtain ⟨g, o, rfl, hcell⟩ := hp (by omega)
  unfold maxLen at hm
  have c0 : w.cell? ⟨g, o + off, none⟩ = some (.int .u8 (l[off]).toNat) := hcell off (by omega)
  have c1 : w.cell? ⟨g, o + off + 1, none⟩ = some (.int .u8 (l[off + 1]).toNat) := hcell (off + 1) (by omega)
  have c2 : w.cell? ⟨g, o + off + 2, none⟩ = some (.int .u8 (l[off + 2]).toNat) := hcell (off + 2) (by omega)
  have c3 : w.cell? ⟨g, o + off + 3, none⟩ = some (.int .u8 (l[off + 3]).toNat) := hcell (off + 3) (by omega)
  have HN := Lib.hid (num_eq l off h4)
  have hle := leUint32_any g (o + off) 4 (c - off) _ _ _ _ w (Nat.le_refl _) c0 c1 c2 c3
  rw [← HN.out] at hle
  generalize num l off = x at hn hle
  clear HN c0 c1 c2 c3 hcell hp
  have H := Lib.hid hle
  clear hle
  go_enter Tryz.func38, Tryz.ntmps38
  go_wp2_with fail
  refine (H.out).mono ?_
  rintro e w' ⟨rfl, k, rfl⟩
  go_wp2
  go_ret
  exact ⟨rfl, k, rfl⟩

set_option maxHeartbeats 400000 in
/-- intAt, where there is none: too near the end, or ahead of all. -/
theorem intAt_out (gd : Nat) (v : Value) (l : List UInt8) (off : Int) (a : Addr) (w : World) (hE : w.cell? ⟨0, 0, none⟩ = some (.iface 144 (.pointer (some a)))) (hd : w.cell? ⟨gd, 0, none⟩ = some v) (hb : BS w v l) (h4 : off < 0 ∨ (l.length : Int) < off + 4)
    (hlo : -9223372036854 ≤ off) (hhi : off ≤ 9223372036854) :
    Calls Tryz.prog 38 #[.pointer (some ⟨gd, 0, none⟩), .int .i64 off] w fun e w' => e = .panicked [{ v := .iface 144 (.pointer (some a)), recovered := false }] ∧ w = w' := by
  obtain ⟨A, c, rfl, hc, hm, hp⟩ := hb
  clear hp
  unfold maxLen at hm
  by_cases h0 : off < 0
  · go_enter Tryz.func38, Tryz.ntmps38
    go_wp2
    exact ⟨rfl, rfl, rfl⟩
  · have h5 : (l.length : Int) < off + 4 := by omega
    clear h4
    go_enter Tryz.func38, Tryz.ntmps38
    go_wp2
    exact ⟨rfl, rfl, rfl⟩

theorem comp_ptr : (Tryz.prog.info? 144).map (·.comparable) = some true := by kernel_rfl
theorem size_err : (Tryz.prog.info? 146).map (·.size) = some 1 := by kernel_rfl

/-- The text of the error that unprotect tells. -/
abbrev toldS : ByteArray := { data := #[101, 114, 114, 111, 114, 32, 114, 101, 97, 100, 105, 110, 103, 32, 109, 111, 100, 117, 108, 101, 32, 105, 110, 100, 101, 120, 58, 32, 99, 111, 114, 114, 117, 112, 116, 32, 105, 110, 100, 101, 120] }

theorem errorsNew_any (s : ByteArray) (w : World) :
    Calls Tryz.prog 39 #[.string s] w fun e w' => e = .returned (.iface 144 (.pointer (some ⟨w.heap.size, 0, none⟩))) ∧ w' = w.alloc (.cells #[.string s] 146) := by
  go_enter Tryz.func39, Tryz.ntmps39
  go_wp2
  go_ret
  exact ⟨rfl, rfl⟩

/-- unprotect, where nothing has panicked. -/
theorem unprotect_idle (p : Option Addr) (w : World) :
    CallsD Tryz.prog 27 #[.pointer p] .returning w fun e u' w' => e = .returned (.tuple #[]) ∧ u' = .returning ∧ w' = w := by
  refine callsD_of_wpS Tryz.func27 rfl fun c₀ cs hu => ?_
  simp only [Tryz.ntmps27, List.size_toArray, List.length_cons, List.length_nil, Nat.reduceAdd, Nat.reduceSub, Array.replicate_succ, Array.replicate_zero, List.push_toArray, List.append_toArray, List.nil_append, List.cons_append]
  apply wpS_seq
  apply wpS_region
  simp [wpOpsS, go_sem, recoverD, hu, Exit.thenS]
  refine wpS_of_wp ?_
  go_wp2
  cases c₀
  simp_all [bodyPostS, results, Tryz.results27]

/-- unprotect, where errCorrupt has panicked. -/
theorem unprotect_caught (p a : Addr) (x : Value) (older : List PanicEntry) (w : World) (hE : w.cell? ⟨0, 0, none⟩ = some (.iface 144 (.pointer (some a)))) (hc : w.cell? p = some x) (hf : w.frozen? p = false) :
    CallsD Tryz.prog 27 #[.pointer (some p)] (.panicking ({ v := .iface 144 (.pointer (some a)), recovered := false } :: older)) w fun e u' w' =>
      e = .returned (.tuple #[]) ∧ u' = .panicking ({ v := .iface 144 (.pointer (some a)), recovered := true } :: older) ∧
        w' = (w.alloc (.cells #[.string toldS] 146)).setCell p (.iface 144 (.pointer (some ⟨w.heap.size, 0, none⟩))) := by
  refine callsD_of_wpS Tryz.func27 rfl fun c₀ cs hu => ?_
  obtain ⟨i, hi, hcmp⟩ := Option.map_eq_some_iff.1 comp_ptr
  obtain ⟨j, hj, _⟩ := Option.map_eq_some_iff.1 size_err
  have heq := run_eql_iface_ptr_same w a Tryz.underlying20 Tryz.underlying144 hi hcmp hj
  simp only [Tryz.ntmps27, List.size_toArray, List.length_cons, List.length_nil, Nat.reduceAdd, Nat.reduceSub, Array.replicate_succ, Array.replicate_zero, List.push_toArray, List.append_toArray, List.nil_append, List.cons_append]
  apply wpS_seq
  apply wpS_region
  simp [wpOpsS, go_sem, recoverD, hu, Exit.thenS]
  refine wpS_of_wp ?_
  clear hu
  have hlt := World.block_lt_of_cell? w p hc
  have hc1 : ∀ o, (w.alloc o).cell? p = some x := fun o => (World.cell?_alloc_lt w o p hlt).trans hc
  have hf1 : ∀ o, (w.alloc o).frozen? p = false := fun o => (World.frozen?_of_block (w := w) (Below.heap_alloc w o p.block hlt)).trans hf
  go_wp2_with fail
  refine (errorsNew_any _ _).mono ?_
  rintro e w' ⟨rfl, rfl⟩
  go_wp2
  simp_all [bodyPostS, results, Tryz.results27]
end Go.Proofs.YtanfimeajalffaaGreatDoor
