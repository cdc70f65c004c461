/-
  The contract of encodeModuleBytes. Conditions: packages within the law's bounds, in the order of their folders.
-/
import Derived.Test.YtanfimeajalffaaGreatDoorEncSort
namespace Go.Proofs.YtanfimeajalffaaGreatDoor
open Go.RowKit

def magic : List UInt8 := [103, 111, 32, 105, 110, 100, 101, 120, 32, 118, 50, 10]

def ES.bytes (es : ES) (l : List UInt8) : ES := { es with b := es.b ++ l }
def ES.tab (es : ES) (ps : List PkgD) : ES := ps.foldl (fun e p => (e.str p.dir).int 0) es
theorem tab_snoc (es : ES) (ps : List PkgD) (k : Nat) (hk : k < ps.length) : es.tab (ps.take (k + 1)) = ((es.tab (ps.take k)).str ps[k].dir).int 0 := by
  unfold ES.tab
  rw [List.take_add_one, List.getElem?_eq_getElem hk, List.foldl_append]
  rfl
def ES.pkgsTo (es : ES) (pos : Nat) (ps : List PkgD) : Nat → ES
  | 0 => es
  | k + 1 => match ps[k]? with
    | some p => ((es.pkgsTo pos ps k).patch (pos + 8 * k + 4) (es.pkgsTo pos ps k).b.length).pkg p
    | none => es.pkgsTo pos ps k
theorem pkgsTo_succ (es : ES) (pos : Nat) (ps : List PkgD) (k : Nat) (hk : k < ps.length) : es.pkgsTo pos ps (k + 1) = ((es.pkgsTo pos ps k).patch (pos + 8 * k + 4) (es.pkgsTo pos ps k).b.length).pkg ps[k] := by
  show (match ps[k]? with | some f => _ | none => _) = _
  rw [List.getElem?_eq_getElem hk]
/-- The state behind all packages, and the index. -/
def encS (ps : List PkgD) : ES := ((((es0.bytes magic).int 0).int ps.length).tab ps).pkgsTo 20 ps ps.length
def encT (ps : List PkgD) : ES := (((encS ps).patch 12 (encS ps).b.length).bytes (encS ps).t).bytes [255]
def enc (ps : List PkgD) : List UInt8 := (encT ps).b

theorem tab_b (es : ES) (ps : List PkgD) : (es.tab ps).b.length = es.b.length + 8 * ps.length := by
  induction ps generalizing es with
  | nil => rfl
  | cons d r ih =>
    show (((es.str d.dir).int 0).tab r).b.length = _
    rw [ih, int_b, str_b, List.length_cons]
    omega
theorem filesTo_b (es : ES) (pos : Nat) (fs : List FileD) : ∀ k, es.b.length ≤ (es.filesTo pos fs k).b.length
  | 0 => Nat.le_refl _
  | k + 1 => by
    have ih := filesTo_b es pos fs k
    show _ ≤ (match fs[k]? with | some f => ((es.filesTo pos fs k).patch (pos + 4 * k) (es.filesTo pos fs k).b.length).file f | none => es.filesTo pos fs k).b.length
    split
    · rename_i f _
      have h1 := file_b ((es.filesTo pos fs k).patch (pos + 4 * k) (es.filesTo pos fs k).b.length) f
      have h2 : ((es.filesTo pos fs k).patch (pos + 4 * k) (es.filesTo pos fs k).b.length).b.length = (es.filesTo pos fs k).b.length := patch_length _ _ _
      omega
    · exact ih
theorem pkg_b (es : ES) (p : PkgD) : es.b.length + 12 + 4 * p.files.length ≤ (es.pkg p).b.length := by
  have h1 := filesTo_b ((es.pre p).zeros p.files.length) (es.pre p).b.length p.files p.files.length
  have h2 : (es.pre p).b.length = es.b.length + 12 := by
    unfold ES.pre
    rw [int_b, str_b, str_b]
  rw [zeros_b, h2] at h1
  unfold ES.pkg
  rw [h2]
  omega

theorem bytesG (base E kb kt c B : Nat) (A : Option Addr) (l : List UInt8) (es : ES) (w : World) (hl2 : l.length ≤ 90000000) (hkb : kb ≤ 100000000) (hr : Reads w B 1 A l.length (Lib.byteCells l)) (h : EG w base E es kb kt) :
    Calls Tryz.prog 59 #[.pointer (some ⟨E, 0, none⟩), .slice A l.length c] w fun e w' => e = .returned (.tuple #[]) ∧ EG w' base E (es.bytes l) (kb + l.length) kt ∧ Fr base E w w' := by
  obtain ⟨h1, h2, h3, h4⟩ := h
  refine (bytes_any base E c B A l es w (by omega) (by omega) hr h1).mono ?_
  rintro e w' ⟨rfl, hE, hB⟩
  exact ⟨rfl, ⟨hE, h2, by show (es.b ++ l).length ≤ _; rw [List.length_append]; omega, h4⟩, hB⟩

theorem uint32G (base E kb kt n : Nat) (es : ES) (w : World) (hn : n < 4294967296) (hkb : kb ≤ 100000000) (h : EG w base E es kb kt) :
    Calls Tryz.prog 61 #[.pointer (some ⟨E, 0, none⟩), .int .u32 (n : Int)] w fun e w' => e = .returned (.tuple #[]) ∧ EG w' base E (es.int n) (kb + 4) kt ∧ Fr base E w w' := by
  obtain ⟨h1, h2, h3, h4⟩ := h
  refine (uint32_any base E n es w hn (by omega) h1).mono ?_
  rintro e w' ⟨rfl, hE, hB⟩
  exact ⟨rfl, ⟨hE, h2, by show (es.b ++ Lib.leBytes 4 n).length ≤ _; rw [List.length_append, le_len]; omega, h4⟩, hB⟩

theorem EG.drewN {w : World} {base E kb kt : Nat} {es : ES} (h : EG w base E es kb kt) (k : Nat) : EG (w.drewN k) base E es kb kt := h
theorem Fr.drewN {base E : Nat} {a w : World} (h : Fr base E a w) (k : Nat) : Fr base E a (w.drewN k) := ⟨⟨h.1.os, h.1.tape, h.1.output, h.1.size, h.1.block⟩, h.2⟩
theorem Sorted.below {w w' : World} {B g n : Nat} (h : Sorted w B g n) (hb : Below B w w') : Sorted w' B g n := by
  intro k hk
  obtain ⟨g1, g2, d1, d2, c1, c2, e1, e2, b0, b1, b2, hc⟩ := h k hk
  exact ⟨g1, g2, d1, d2, (hb.cell (p := ⟨g, k, none⟩) b0).trans c1, (hb.cell (p := ⟨g, k + 1, none⟩) b0).trans c2, (hb.cell (p := ⟨g1, 1, none⟩) b1).trans e1, (hb.cell (p := ⟨g2, 1, none⟩) b2).trans e2, b0, b1, b2, hc⟩

theorem reads_new (w : World) (cs : Array Value) (t : TypeId) (n : Nat) (hn : cs.size = n) : Reads (w.alloc (.cells cs t)) (w.heap.size + 1) 1 (some ⟨w.heap.size, 0, none⟩) n cs.toList := by
  refine ⟨by simp [hn], fun _ => ⟨_, rfl, by simp, fun j u hj => ?_⟩⟩
  have hadd : (⟨w.heap.size, 0, none⟩ : Addr).add j = ⟨w.heap.size, j, none⟩ := by unfold Addr.add; split <;> simp_all
  rw [hadd, cell_of_row _ w.heap.size j _ _ (0, 0) (heap_alloc_new w _)]
  simpa using hj

structure PkgsOk (ps : List PkgD) : Prop where
  len : ps.length ≤ 10
  each : ∀ p ∈ ps, p.Ok
  order : ∀ k (hk : k + 1 < ps.length), 0 ≤ Lib.compareBytes ps[k + 1].dir.data.toList ps[k].dir.data.toList

/-- The packages, as the encoder's input has them. -/
def RawPkgsAt (w : World) (B : Nat) (A : Option Addr) (ps : List PkgD) : Prop :=
  (∀ _ : 0 < ps.length, ∃ g, A = some ⟨g, 0, none⟩ ∧ g < B) ∧ ∃ us, Reads w B 1 A ps.length us ∧ ∀ (i : Nat) (u : Value) (p : PkgD), us[i]? = some u → ps[i]? = some p → RawPkgAt w B u p
theorem RawPkgsAt.below {w w' : World} {B : Nat} {A : Option Addr} {ps : List PkgD} (h : RawPkgsAt w B A ps) (hb : Below B w w') : RawPkgsAt w' B A ps := by
  obtain ⟨h1, us, h2, h3⟩ := h
  exact ⟨h1, us, h2.below hb, fun i u p hu hp => (h3 i u p hu hp).below hb⟩

/-- One of them. -/
theorem RawPkgsAt.at_ {w : World} {B : Nat} {A : Option Addr} {ps : List PkgD} (h : RawPkgsAt w B A ps) (k : Nat) (hk : k < ps.length) : ∃ g u, A = some ⟨g, 0, none⟩ ∧ g < B ∧ w.cell? ⟨g, k, none⟩ = some u ∧ RawPkgAt w B u ps[k] := by
  obtain ⟨h1, us, h2, h3⟩ := h
  obtain ⟨g, rfl, hg⟩ := h1 (by omega)
  obtain ⟨g', o', he, _, hc⟩ := h2.lies (by omega)
  injection he with he
  injection he with he1 he2
  subst he1
  subst he2
  have hul : k < us.length := by rw [h2.1]; omega
  have := hc k _ (List.getElem?_eq_getElem hul)
  rw [Nat.zero_add] at this
  exact ⟨g, _, rfl, hg, this, h3 k _ _ (List.getElem?_eq_getElem hul) (List.getElem?_eq_getElem hk)⟩

theorem RawPkgsAt.sorted {w : World} {B : Nat} {A : Option Addr} {ps : List PkgD} (h : RawPkgsAt w B A ps) (ho : PkgsOk ps) : ∃ g, (1 < ps.length → A = some ⟨g, 0, none⟩) ∧ Sorted w B g ps.length := by
  by_cases h0 : 0 < ps.length
  · obtain ⟨g, rfl, hg⟩ := h.1 h0
    refine ⟨g, fun _ => rfl, fun k hk => ?_⟩
    obtain ⟨ga, ua, ha, _, hca, g1, v1, rfl, hg1, hb1, _⟩ := h.at_ k (by omega)
    obtain ⟨gb, ub, hb, _, hcb, g2, v2, rfl, hg2, hb2, _⟩ := h.at_ (k + 1) hk
    injection ha with ha
    injection ha with ha
    injection hb with hb
    injection hb with hb
    subst ha
    subst hb
    exact ⟨g1, g2, _, _, hca, hcb, hb1.cell 1, hb2.cell 1, hg, hg1, hg2, ho.order k hk⟩
  · exact ⟨0, fun h1 => absurd h1 (by omega), fun k hk => absurd hk (by omega)⟩
end Go.Proofs.YtanfimeajalffaaGreatDoor
