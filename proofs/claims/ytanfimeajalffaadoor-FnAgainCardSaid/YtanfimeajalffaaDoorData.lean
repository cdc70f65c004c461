/-
  Packages as data, and how they lie in memory; the encoder's work as plain functions. No program in sight but for the types' numbers.
-/
import Derived.Test.YtanfimeajalffaaDoorEnc5
namespace Go.Proofs.YtanfimeajalffaaDoor
open Go.RowKit

def dirCells (d : DirD) : List Value := [.string d.text, .string d.at_.fn, .int .i64 d.at_.o, .int .i64 d.at_.l, .int .i64 d.at_.c]

/-- A file, and a package, as data. -/
structure FileD where
  err : ByteArray
  perr : ByteArray
  name : ByteArray
  syn : ByteArray
  pkg : ByteArray
  ign : Bool
  bin : Bool
  cgo : ByteArray
  con : ByteArray
  cons : List ByteArray
  imps : List DirD
  embs : List DirD
  dirs : List DirD
structure PkgD where
  err : ByteArray
  dir : ByteArray
  files : List FileD

def fileCells (f : FileD) (vc vi ve vd : Value) : List Value :=
  [.string f.err, .string f.perr, .string f.name, .string f.syn, .string f.pkg, .bool f.ign, .bool f.bin, .string f.cgo, .string f.con, vc, vi, ve, vd]

/-- A list of texts, of directives, as they lie ahead of block B. -/
def StrsAt (w : World) (B : Nat) (v : Value) (ss : List ByteArray) : Prop := ∃ A c, v = .slice A ss.length c ∧ Reads w B 1 A ss.length (ss.map Value.string)
def DirsAt (w : World) (B : Nat) (v : Value) (ds : List DirD) : Prop := ∃ A c, v = .slice A ds.length c ∧ Reads w B 5 A ds.length (ds.flatMap dirCells)
/-- The cells of a file. -/
def FileR (w : World) (B : Nat) (cs : List Value) (f : FileD) : Prop :=
  ∃ vc vi ve vd, cs = fileCells f vc vi ve vd ∧ StrsAt w B vc f.cons ∧ DirsAt w B vi f.imps ∧ DirsAt w B ve f.embs ∧ DirsAt w B vd f.dirs

theorem StrsAt.below {w w' : World} {B : Nat} {v : Value} {ss : List ByteArray} (h : StrsAt w B v ss) (hb : Below B w w') : StrsAt w' B v ss := by
  obtain ⟨A, c, h1, h2⟩ := h
  exact ⟨A, c, h1, h2.below hb⟩
theorem DirsAt.below {w w' : World} {B : Nat} {v : Value} {ss : List DirD} (h : DirsAt w B v ss) (hb : Below B w w') : DirsAt w' B v ss := by
  obtain ⟨A, c, h1, h2⟩ := h
  exact ⟨A, c, h1, h2.below hb⟩
theorem FileR.below {w w' : World} {B : Nat} {cs : List Value} {f : FileD} (h : FileR w B cs f) (hb : Below B w w') : FileR w' B cs f := by
  obtain ⟨vc, vi, ve, vd, h1, h2, h3, h4, h5⟩ := h
  exact ⟨vc, vi, ve, vd, h1, h2.below hb, h3.below hb, h4.below hb, h5.below hb⟩

def DirD.ok (d : DirD) : Prop := d.text.size ≤ 1000 ∧ d.at_.ok
structure FileD.Ok (f : FileD) : Prop where
  err : f.err.size ≤ 1000
  perr : f.perr.size ≤ 1000
  name : f.name.size ≤ 1000
  syn : f.syn.size ≤ 1000
  pkg : f.pkg.size ≤ 1000
  cgo : f.cgo.size ≤ 1000
  con : f.con.size ≤ 1000
  cons : ∀ s ∈ f.cons, s.size ≤ 1000
  consL : f.cons.length ≤ 10
  imps : ∀ d ∈ f.imps, d.ok
  impsL : f.imps.length ≤ 10
  embs : ∀ d ∈ f.embs, d.ok
  embsL : f.embs.length ≤ 10
  dirs : ∀ d ∈ f.dirs, d.ok
  dirsL : f.dirs.length ≤ 10

def ES.strs (es : ES) (ss : List ByteArray) : ES := ss.foldl ES.str es
def ES.dir (es : ES) (d : DirD) : ES := (es.str d.text).pos d.at_
def ES.dirs (es : ES) (ds : List DirD) : ES := ds.foldl ES.dir es
def ES.head (es : ES) (f : FileD) : ES := ((((((((es.str f.err).str f.perr).str f.syn).str f.name).str f.pkg).int f.ign.toNat).int f.bin.toNat).str f.cgo).str f.con
def ES.file (es : ES) (f : FileD) : ES :=
  (((((((((es.head f).int f.cons.length).strs f.cons).int f.imps.length).dirs f.imps).int f.embs.length).dirs f.embs).int f.dirs.length).dirs f.dirs)

theorem strs_snoc (es : ES) (ss : List ByteArray) (k : Nat) (hk : k < ss.length) : es.strs (ss.take (k + 1)) = (es.strs (ss.take k)).str ss[k] := by
  unfold ES.strs
  rw [List.take_add_one, List.getElem?_eq_getElem hk, List.foldl_append]
  rfl
theorem dirs_snoc (es : ES) (ds : List DirD) (k : Nat) (hk : k < ds.length) : es.dirs (ds.take (k + 1)) = (es.dirs (ds.take k)).dir ds[k] := by
  unfold ES.dirs
  rw [List.take_add_one, List.getElem?_eq_getElem hk, List.foldl_append]
  rfl

/-- Where a row that is read lies. -/
theorem Reads.lies {w : World} {B size n : Nat} {A : Option Addr} {xs : List Value} (h : Reads w B size A n xs) (hn : 0 < n * size) : ∃ g o, A = some ⟨g, o, none⟩ ∧ g < B ∧ ∀ j u, xs[j]? = some u → w.cell? ⟨g, o + j, none⟩ = some u := by
  obtain ⟨ad, h1, h2, h3⟩ := h.2 (Nat.pos_of_mul_pos_right hn)
  have hx : 0 < xs.length := by rw [h.1]; exact hn
  have h0 := h3 0 _ (List.getElem?_eq_getElem hx)
  have hs : ad.spot = none := by
    unfold World.cell? Addr.add at h0
    simp at h0
    split at h0
    · split at h0
      · cases h0
      · rename_i h4
        simpa using h4
    · cases h0
  obtain ⟨g, o, sp⟩ := ad
  simp at hs
  subst hs
  refine ⟨g, o, h1, h2, fun j u hj => ?_⟩
  have := h3 j u hj
  have hadd : (⟨g, o, none⟩ : Addr).add j = ⟨g, o + j, none⟩ := by unfold Addr.add; split <;> simp_all
  rw [hadd] at this
  exact this

/-- One text of a list. -/
theorem StrsAt.cell {w : World} {B : Nat} {A : Option Addr} {ss : List ByteArray} (h : Reads w B 1 A ss.length (ss.map Value.string)) (k : Nat) (hk : k < ss.length) : ∃ g o, A = some ⟨g, o, none⟩ ∧ g < B ∧ w.cell? ⟨g, o + k, none⟩ = some (.string ss[k]) := by
  obtain ⟨g, o, h1, h2, h3⟩ := h.lies (by omega)
  exact ⟨g, o, h1, h2, h3 k _ (by rw [List.getElem?_map, List.getElem?_eq_getElem hk]; rfl)⟩

theorem flatMap_get {α β : Type} (f : α → List β) (n : Nat) (h : ∀ x, (f x).length = n) : ∀ (l : List α) (k : Nat) (hk : k < l.length) (j : Nat), j < n → (l.flatMap f)[k * n + j]? = (f l[k])[j]?
  | [], k, hk, _, _ => absurd hk (by simp)
  | x :: r, 0, _, j, hj => by
    rw [List.flatMap_cons, Nat.zero_mul, Nat.zero_add, List.getElem?_append_left (by rw [h]; exact hj)]
    rfl
  | x :: r, k + 1, hk, j, hj => by
    have e : (k + 1) * n + j = (f x).length + (k * n + j) := by rw [h, Nat.add_mul]; omega
    rw [List.flatMap_cons, e, List.getElem?_append_right (by omega), Nat.add_sub_cancel_left]
    exact flatMap_get f n h r k (by simpa using hk) j hj

/-- One directive of a list. -/
theorem DirsAt.cells {w : World} {B : Nat} {A : Option Addr} {ds : List DirD} (h : Reads w B 5 A ds.length (ds.flatMap dirCells)) (k : Nat) (hk : k < ds.length) :
    ∃ g o, A = some ⟨g, o, none⟩ ∧ g < B ∧ w.cell? ⟨g, o + k * 5, none⟩ = some (.string ds[k].text) ∧ w.cell? ⟨g, o + k * 5 + 1, none⟩ = some (.string ds[k].at_.fn) ∧ w.cell? ⟨g, o + k * 5 + 2, none⟩ = some (.int .i64 ds[k].at_.o) ∧
      w.cell? ⟨g, o + k * 5 + 3, none⟩ = some (.int .i64 ds[k].at_.l) ∧ w.cell? ⟨g, o + k * 5 + 4, none⟩ = some (.int .i64 ds[k].at_.c) := by
  obtain ⟨g, o, h1, h2, h3⟩ := h.lies (by omega)
  have hg := fun j hj => flatMap_get dirCells 5 (fun _ => rfl) ds k hk j hj
  exact ⟨g, o, h1, h2, h3 _ _ (hg 0 (by omega)), h3 _ _ (hg 1 (by omega)), h3 _ _ (hg 2 (by omega)), h3 _ _ (hg 3 (by omega)), h3 _ _ (hg 4 (by omega))⟩
end Go.Proofs.YtanfimeajalffaaDoor
