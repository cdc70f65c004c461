/-
  The encoder, more: a number written over another, a length of seven bits a byte. Conditions: the premises of each theorem.
-/
import Derived.Test.YtanfimeajalffaaDoorEnc
namespace Go.Proofs.YtanfimeajalffaaDoor
open Go.RowKit

/-- A number laid over four bytes. -/
def patch (l : List UInt8) (a n : Nat) : List UInt8 :=
  (((l.set a (n % 256).toUInt8).set (a + 1) (n / 256 % 256).toUInt8).set (a + 2) (n / 65536 % 256).toUInt8).set (a + 3) (n / 16777216 % 256).toUInt8

theorem patch_length (l : List UInt8) (a n : Nat) : (patch l a n).length = l.length := by simp [patch]

theorem bc_set (l : List UInt8) (j : Nat) (b : UInt8) : Lib.byteCells (l.set j b) = (Lib.byteCells l).set j (.int .u8 b.toNat) := by simp [Lib.byteCells, List.map_set]

theorem patch_cells (l : List UInt8) (a n : Nat) (hn : n < 4294967296) : Lib.byteCells (patch l a n) =
    ((((Lib.byteCells l).set a (.int .u8 ((n : Int) % 256))).set (a + 1) (.int .u8 ((n : Int) / 256 % 256))).set (a + 2) (.int .u8 ((n : Int) / 65536 % 256))).set (a + 3) (.int .u8 ((n : Int) / 16777216)) := by
  have e0 : ((n % 256 : Nat) : Int) = (n : Int) % 256 := by omega
  have e1 : ((n / 256 % 256 : Nat) : Int) = (n : Int) / 256 % 256 := by omega
  have e2 : ((n / 65536 % 256 : Nat) : Int) = (n : Int) / 65536 % 256 := by omega
  have e3 : ((n / 16777216 % 256 : Nat) : Int) = (n : Int) / 16777216 := by omega
  simp only [patch, bc_set, Lib.toUInt8_mod, e0, e1, e2, e3]

set_option maxHeartbeats 1000000 in
theorem lePut_any (g o m c n : Nat) (b0 b1 b2 b3 : Int) (w : World) (hn : n < 4294967296) (hm : 4 ≤ m)
    (f0 : w.frozen? ⟨g, o, none⟩ = false) (f1 : w.frozen? ⟨g, o + 1, none⟩ = false) (f2 : w.frozen? ⟨g, o + 2, none⟩ = false) (f3 : w.frozen? ⟨g, o + 3, none⟩ = false)
    (c0 : w.cell? ⟨g, o, none⟩ = some (.int .u8 b0)) (c1 : w.cell? ⟨g, o + 1, none⟩ = some (.int .u8 b1)) (c2 : w.cell? ⟨g, o + 2, none⟩ = some (.int .u8 b2)) (c3 : w.cell? ⟨g, o + 3, none⟩ = some (.int .u8 b3)) :
    Calls Tryd.prog 76 #[.slice (some ⟨g, o, none⟩) m c, .int .u32 (n : Int)] w fun e w' => e = .returned (.tuple #[]) ∧
      w' = (((w.setCell ⟨g, o, none⟩ (.int .u8 ((n : Int) % 256))).setCell ⟨g, o + 1, none⟩ (.int .u8 ((n : Int) / 256 % 256))).setCell ⟨g, o + 2, none⟩ (.int .u8 ((n : Int) / 65536 % 256))).setCell ⟨g, o + 3, none⟩ (.int .u8 ((n : Int) / 16777216)) := by
  have n0 : (0 : Int) < (m : Int) := by omega
  have n1 : (1 : Int) < (m : Int) := by omega
  have n2 : (2 : Int) < (m : Int) := by omega
  have n3 : (3 : Int) < (m : Int) := by omega
  go_enter Tryd.func76, Tryd.ntmps76
  go_wp2_with fail
  refine bodyPost_end (results_none rfl _ _ _) rfl ?_
  exact ⟨rfl, rfl⟩

set_option maxHeartbeats 1000000 in
/-- A number written over another, in an encoder's bytes. -/
theorem encIntAt_any (base E n a : Nat) (es : ES) (w : World) (hn : n < 2147483648) (ha : a + 4 ≤ es.b.length) (hl : es.b.length ≤ 100000000) (h : Enc w base E es) :
    Calls Tryd.prog 45 #[.pointer (some ⟨E, 0, none⟩), .int .i64 (n : Int), .int .i64 (a : Int)] w fun e w' => e = .returned (.tuple #[]) ∧ Enc w' base E { es with b := patch es.b a n } ∧ Fr base E w w' := by
  obtain ⟨vb, vt, M, D, m, hE, hbE, hbM, hob, hot, hne, hom, hm, hD⟩ := h
  have hc0 : w.cell? ⟨E, 0, none⟩ = some vb := hE.cell 0
  obtain ⟨g, cap, rfl, hgb, hglt⟩ := hob.form (by omega)
  have hcell : ∀ j (hj : j < es.b.length), w.cell? ⟨g, j, none⟩ = some (.int .u8 (es.b[j]).toNat) := fun j hj => by rw [hob.cellAt j (by omega)]; exact bc_getElem _ _ hj
  have hfr : ∀ j, w.frozen? ⟨g, j, none⟩ = false := fun j => hob.frozenAt j
  have hcap : es.b.length ≤ cap := by
    rcases hob.2 with ⟨h, _⟩ | ⟨g', cap', cur, h, _, _, h2, _⟩
    · cases h
    · injection h with _ _ h3
      omega
  have hS : Enc ((((w.setCell ⟨g, a, none⟩ (.int .u8 ((n : Int) % 256))).setCell ⟨g, a + 1, none⟩ (.int .u8 ((n : Int) / 256 % 256))).setCell ⟨g, a + 2, none⟩ (.int .u8 ((n : Int) / 65536 % 256))).setCell ⟨g, a + 3, none⟩ (.int .u8 ((n : Int) / 16777216))) base E { es with b := patch es.b a n } ∧
      Fr base E w ((((w.setCell ⟨g, a, none⟩ (.int .u8 ((n : Int) % 256))).setCell ⟨g, a + 1, none⟩ (.int .u8 ((n : Int) / 256 % 256))).setCell ⟨g, a + 2, none⟩ (.int .u8 ((n : Int) / 65536 % 256))).setCell ⟨g, a + 3, none⟩ (.int .u8 ((n : Int) / 16777216))) := by
    have s0 := hob.stored a (.int .u8 ((n : Int) % 256))
    have s1 := s0.1.stored (a + 1) (.int .u8 ((n : Int) / 256 % 256))
    have s2 := s1.1.stored (a + 2) (.int .u8 ((n : Int) / 65536 % 256))
    have s3 := s2.1.stored (a + 3) (.int .u8 ((n : Int) / 16777216))
    have hg := ((s0.2.trans s1.2).trans s2.2).trans s3.2
    have ho := s3.1
    rw [← patch_cells es.b a n (by omega)] at ho
    have hEb := own_blk_ne hob hE (by decide)
    have hME := own_map_ne hob hom
    simp only [Value.ownBlock] at hEb hME hne
    refine ⟨⟨_, vt, M, D, m, hE.grown hg (Ne.symm hEb), hbE, hbM, by rw [patch_length]; exact ho, hot.kept hg ?_, by simpa [Value.ownBlock] using hne, hom.kept hg (Ne.symm hME), hm, hD⟩, (Below.refl base w).grown hg (by have := hE.lt; omega) (fun k hk => by injection hk with hk; omega), fun x hx => ?_⟩
    · rcases hne with h | h
      · cases h
      · exact .inr (Ne.symm h)
    · obtain ⟨hlt, vb', vt', M', hE2, g1, g2, g3, g4⟩ := hx
      obtain ⟨rfl, rfl, rfl⟩ := blk_inj hE hE2
      exact ⟨⟨Nat.lt_of_lt_of_le hlt hg.size, _, _, _, hE.grown hg (Ne.symm hEb), g1, g2, g3, g4⟩, hg.block x hlt (Ne.symm g3)⟩
  have HS := Lib.hid hS
  have C := lePut_any g a (es.b.length - a) (cap - a) n _ _ _ _ w (by omega) (by omega) (hfr _) (hfr _) (hfr _) (hfr _) (hcell a (by omega)) (hcell (a + 1) (by omega)) (hcell (a + 2) (by omega)) (hcell (a + 3) (by omega))
  have HC := Lib.hid C
  clear C hcell hfr hS hob hot hom hE hne hm hD
  go_enter Tryd.func45, Tryd.ntmps45
  go_wp2_with fail
  refine (HC.out).mono ?_
  rintro e w1 ⟨rfl, rfl⟩
  go_wp2_with fail
  refine bodyPost_end (results_none rfl _ _ _) rfl ?_
  exact ⟨rfl, HS.out.1, HS.out.2⟩
end Go.Proofs.YtanfimeajalffaaDoor
