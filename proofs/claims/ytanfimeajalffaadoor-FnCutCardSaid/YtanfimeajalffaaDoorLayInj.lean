/-
  An index tells its packages: what stands in it, read in one way alone. Plain Lean; the premises of each theorem are its conditions.
-/
import Derived.Test.YtanfimeajalffaaDoorLay
import Derived.Lib.VarintDec
import Derived.Lib.VarintMem
namespace Go.Proofs.YtanfimeajalffaaDoor
open Go.RowKit

/-- A length below 2^14, read again. -/
theorem uvarintDec_uvarint (n : Nat) (hn : n < 16384) (r : List UInt8) : Lib.uvarintDec (Lib.uvarint n ++ r) = (n, ((Lib.uvarint n).length : Int)) := by
  by_cases h : n < 128
  · rw [Lib.uvarint_small h]
    have e : (n.toUInt8).toNat = n := Lib.toUInt8_toNat (by omega)
    simp [Lib.uvarintDec, Lib.uvarintFrom, e, h]
  · rw [Lib.uvarint_big (by omega), Lib.uvarint_small (by omega)]
    have e1 : ((n % 128 + 128).toUInt8).toNat = n % 128 + 128 := Lib.toUInt8_toNat (by omega)
    have e2 : ((n / 128).toUInt8).toNat = n / 128 := Lib.toUInt8_toNat (by omega)
    generalize (n % 128 + 128).toUInt8 = b1 at e1 ⊢
    generalize (n / 128).toUInt8 = b2 at e2 ⊢
    have h1 : ¬ b1.toNat < 128 := by omega
    have h2 : b2.toNat < 128 := by omega
    have h3 : b1.toNat % 128 + b2.toNat * 128 = n := by omega
    simp [Lib.uvarintDec, Lib.uvarintFrom, h1, h2, h3]

theorem TextAt.inj {t : List UInt8} {off : Nat} {s s' : ByteArray} (h : TextAt t off s) (k : TextAt t off s') : s = s' := by
  obtain ⟨h0, r, h⟩ := h
  obtain ⟨k0, r', k⟩ := k
  have e := h.symm.trans k
  have e2 := congrArg Lib.uvarintDec e
  rw [uvarintDec_uvarint _ (by omega), uvarintDec_uvarint _ (by omega)] at e2
  injection e2 with e3 _
  rw [e3] at e
  have e4 := List.append_cancel_left e
  have e5 : s.data.toList = s'.data.toList := List.append_inj_left e4 (by simpa using e3)
  have e6 : s.data = s'.data := Array.toList_inj.1 e5
  cases s
  cases s'
  simp at e6
  rw [e6]
theorem ItIs.inj_s {b t : List UInt8} {p : Nat} {x y : ByteArray} (h : ItIs b t p (.s x)) (k : ItIs b t p (.s y)) : x = y := by
  obtain ⟨o1, h1, h2⟩ := h
  obtain ⟨o2, k1, k2⟩ := k
  rw [h1.inj k1] at h2
  exact h2.inj k2
theorem ItIs.inj_n {b t : List UInt8} {p n m : Nat} (h : ItIs b t p (.n n)) (k : ItIs b t p (.n m)) : n = m := IntIs.inj h k

theorem ItsAt.head {b t : List UInt8} {p : Nat} {a : It} {l : List It} (h : ItsAt b t p (a :: l)) : ItIs b t p a := h 0 a rfl
theorem ItsAt.tail {b t : List UInt8} {p : Nat} {a : It} {l : List It} (h : ItsAt b t p (a :: l)) : ItsAt b t (p + 4) l := fun k it hk => by
  have := h (k + 1) it (by simpa using hk)
  rw [show p + 4 + 4 * k = p + 4 * (k + 1) from by omega]
  exact this
theorem ItsAt.left {b t : List UInt8} {p : Nat} {x y : List It} (h : ItsAt b t p (x ++ y)) : ItsAt b t p x := fun k it hk => by
  have hl := (List.getElem?_eq_some_iff.1 hk).1
  exact h k it (by rw [List.getElem?_append_left hl]; exact hk)
theorem ItsAt.right {b t : List UInt8} {p : Nat} {x y : List It} (h : ItsAt b t p (x ++ y)) : ItsAt b t (p + 4 * x.length) y := fun k it hk => by
  have := h (x.length + k) it (by rw [List.getElem?_append_right (by omega), Nat.add_sub_cancel_left]; exact hk)
  rw [show p + 4 * x.length + 4 * k = p + 4 * (x.length + k) from by omega]
  exact this

/-- Directives at a place, and a file. -/
def DirsIs (b t : List UInt8) (p : Nat) (ds : List DirD) : Prop := IntIs b p ds.length ∧ ∀ k d, ds[k]? = some d → ItsAt b t (p + 4 + 20 * k) (dirIts d)
def FileIs (b t : List UInt8) (p : Nat) (f : FileD) : Prop :=
  ItsAt b t p (headIts f) ∧ (∀ k s, f.cons[k]? = some s → ItIs b t (p + 40 + 4 * k) (.s s)) ∧ DirsIs b t (p + 40 + 4 * f.cons.length) f.imps ∧
    DirsIs b t (p + 44 + 4 * f.cons.length + 20 * f.imps.length) f.embs ∧ DirsIs b t (p + 48 + 4 * f.cons.length + 20 * f.imps.length + 20 * f.embs.length) f.dirs

theorem DirsIs.of {b t : List UInt8} {p : Nat} {ds : List DirD} (h : ItsAt b t p (dirsIts ds)) : DirsIs b t p ds := by
  refine ⟨h.head, fun k d hd j it hj => ?_⟩
  obtain ⟨hk, hde⟩ := List.getElem?_eq_some_iff.1 hd
  have hj5 : j < 5 := (List.getElem?_eq_some_iff.1 hj).1
  have hg := flatMap_get dirIts 5 (fun _ => rfl) ds k hk j hj5
  have := h.tail (k * 5 + j) it (by rw [hg, hde]; exact hj)
  rw [show p + 4 + 20 * k + 4 * j = p + 4 + 4 * (k * 5 + j) from by omega]
  exact this
theorem dirsIts_len (ds : List DirD) : (dirsIts ds).length = 1 + 5 * ds.length := by
  simp only [dirsIts, List.length_cons, flat_its_len]
  omega
theorem FileIs.of {b t : List UInt8} {p : Nat} {f : FileD} (h : ItsAt b t p (fileIts f)) : FileIs b t p f := by
  unfold fileIts at h
  have h1 := h.right
  have h2 := h1.right
  have h3 := h2.right
  have h4 := h3.left
  have h5 := h3.right
  have hl : (headIts f).length = 10 := rfl
  simp only [hl, List.length_map, dirsIts_len] at h1 h2 h3 h4 h5
  refine ⟨h.left, fun k s hs => ?_, ?_, ?_, ?_⟩
  · have := h1.left k (.s s) (by rw [List.getElem?_map, hs]; rfl)
    exact this
  · exact DirsIs.of h2.left
  · have := DirsIs.of h4
    rw [show p + 44 + 4 * f.cons.length + 20 * f.imps.length = p + 4 * 10 + 4 * f.cons.length + 4 * (1 + 5 * f.imps.length) from by omega]
    exact this
  · have := DirsIs.of h5
    rw [show p + 48 + 4 * f.cons.length + 20 * f.imps.length + 20 * f.embs.length = p + 4 * 10 + 4 * f.cons.length + 4 * (1 + 5 * f.imps.length) + 4 * (1 + 5 * f.embs.length) from by omega]
    exact this

theorem toNat_inj {a b : Int} (ha : 0 ≤ a) (hb : 0 ≤ b) (h : a.toNat = b.toNat) : a = b := by omega
theorem dir_inj {b t : List UInt8} {p : Nat} {d e : DirD} (h : ItsAt b t p (dirIts d)) (k : ItsAt b t p (dirIts e)) (hd : d.ok) (he : e.ok) : d = e := by
  obtain ⟨_, _, a1, _, a2, _, a3, _⟩ := hd
  obtain ⟨_, _, b1, _, b2, _, b3, _⟩ := he
  have c0 := ItIs.inj_s (h 0 _ rfl) (k 0 _ rfl)
  have c1 := ItIs.inj_s (h 1 _ rfl) (k 1 _ rfl)
  have c2 := toNat_inj a1 b1 (ItIs.inj_n (h 2 _ rfl) (k 2 _ rfl))
  have c3 := toNat_inj a2 b2 (ItIs.inj_n (h 3 _ rfl) (k 3 _ rfl))
  have c4 := toNat_inj a3 b3 (ItIs.inj_n (h 4 _ rfl) (k 4 _ rfl))
  obtain ⟨x, y, z, u, v⟩ := d
  obtain ⟨x', y', z', u', v'⟩ := e
  simp only at c0 c1 c2 c3 c4
  rw [c0, c1, c2, c3, c4]
theorem DirsIs.inj {b t : List UInt8} {p : Nat} {ds es : List DirD} (h : DirsIs b t p ds) (k : DirsIs b t p es) (hd : ∀ d ∈ ds, d.ok) (he : ∀ d ∈ es, d.ok) : ds = es := by
  have hl := h.1.inj k.1
  refine List.ext_getElem hl fun i h1 h2 => ?_
  exact dir_inj (h.2 i _ (List.getElem?_eq_getElem h1)) (k.2 i _ (List.getElem?_eq_getElem h2)) (hd _ (List.getElem_mem h1)) (he _ (List.getElem_mem h2))
theorem bool_inj {a b : Bool} (h : a.toNat = b.toNat) : a = b := by cases a <;> cases b <;> simp_all
theorem FileIs.inj {b t : List UInt8} {p : Nat} {f g : FileD} (h : FileIs b t p f) (k : FileIs b t p g) (hf : f.Ok) (hg : g.Ok) : f = g := by
  obtain ⟨h1, h2, h3, h4, h5⟩ := h
  obtain ⟨k1, k2, k3, k4, k5⟩ := k
  have c0 := ItIs.inj_s (h1 0 _ rfl) (k1 0 _ rfl)
  have c1 := ItIs.inj_s (h1 1 _ rfl) (k1 1 _ rfl)
  have c2 := ItIs.inj_s (h1 2 _ rfl) (k1 2 _ rfl)
  have c3 := ItIs.inj_s (h1 3 _ rfl) (k1 3 _ rfl)
  have c4 := ItIs.inj_s (h1 4 _ rfl) (k1 4 _ rfl)
  have c5 := bool_inj (ItIs.inj_n (h1 5 _ rfl) (k1 5 _ rfl))
  have c6 := bool_inj (ItIs.inj_n (h1 6 _ rfl) (k1 6 _ rfl))
  have c7 := ItIs.inj_s (h1 7 _ rfl) (k1 7 _ rfl)
  have c8 := ItIs.inj_s (h1 8 _ rfl) (k1 8 _ rfl)
  have c9 := ItIs.inj_n (h1 9 _ rfl) (k1 9 _ rfl)
  have d1 : f.cons = g.cons := List.ext_getElem c9 fun i x y => ItIs.inj_s (h2 i _ (List.getElem?_eq_getElem x)) (k2 i _ (List.getElem?_eq_getElem y))
  rw [← d1] at k3 k4 k5
  have d2 := h3.inj k3 hf.imps hg.imps
  rw [← d2] at k4 k5
  have d3 := h4.inj k4 hf.embs hg.embs
  rw [← d3] at k5
  have d4 := h5.inj k5 hf.dirs hg.dirs
  cases f
  cases g
  simp only at c0 c1 c2 c3 c4 c5 c6 c7 c8 d1 d2 d3 d4
  rw [c0, c1, c2, c3, c4, c5, c6, c7, c8, d1, d2, d3, d4]
theorem FileVia.inj {b t : List UInt8} {p lo hi lo' hi' : Nat} {f g : FileD} (h : FileVia b t p lo hi f) (k : FileVia b t p lo' hi' g) (hf : f.Ok) (hg : g.Ok) : f = g := by
  obtain ⟨o, h1, _, _, h2⟩ := h
  obtain ⟨o', k1, _, _, k2⟩ := k
  rw [h1.inj k1] at h2
  exact (FileIs.of h2).inj (FileIs.of k2) hf hg
theorem PkgIs.inj {b t : List UInt8} {off hi hi' : Nat} {p q : PkgD} (h : PkgIs b t off hi p) (k : PkgIs b t off hi' q) (hp : p.Ok) (hq : q.Ok) : p = q := by
  obtain ⟨h1, _, h2⟩ := h
  obtain ⟨k1, _, k2⟩ := k
  have c0 := ItIs.inj_s (h1 0 _ rfl) (k1 0 _ rfl)
  have c1 := ItIs.inj_s (h1 1 _ rfl) (k1 1 _ rfl)
  have c2 := ItIs.inj_n (h1 2 _ rfl) (k1 2 _ rfl)
  have d1 : p.files = q.files := List.ext_getElem c2 fun i x y => (h2 i _ (List.getElem?_eq_getElem x)).inj (k2 i _ (List.getElem?_eq_getElem y)) (hp.files _ (List.getElem_mem x)) (hq.files _ (List.getElem_mem y))
  cases p
  cases q
  simp only at c0 c1 d1
  rw [c0, c1, d1]
theorem IndexIs.inj {l : List UInt8} {ps qs : List PkgD} (h : IndexIs l ps) (k : IndexIs l qs) (hp : ∀ p ∈ ps, p.Ok) (hq : ∀ p ∈ qs, p.Ok) : ps = qs := by
  obtain ⟨b, t, h1, _, h2, h3, _, _, hl, _, h4⟩ := h
  obtain ⟨b', t', k1, _, k2, k3, _, _, kl, _, k4⟩ := k
  have eb : IntIs l 12 b.length := h2.keep fun i x y => by rw [h1]; exact List.getElem?_append_left (by omega)
  have eb' : IntIs l 12 b'.length := k2.keep fun i x y => by rw [k1]; exact List.getElem?_append_left (by omega)
  have e := eb.inj eb'
  obtain ⟨rfl, rfl⟩ := List.append_inj (h1.symm.trans k1) e
  have en := h3.inj k3
  refine List.ext_getElem en fun i x y => ?_
  obtain ⟨_, o, hi, a1, a2, a3⟩ := h4 i _ (List.getElem?_eq_getElem x)
  obtain ⟨_, o', hi', c1, c2, c3⟩ := k4 i _ (List.getElem?_eq_getElem y)
  rw [a1.inj c1] at a3
  exact a3.inj c3 (hp _ (List.getElem_mem x)) (hq _ (List.getElem_mem y))
/-- Different packages have different indices. -/
theorem enc_inj {ps qs : List PkgD} (hp : PkgsOk ps) (hq : PkgsOk qs) : enc ps = enc qs ↔ ps = qs :=
  ⟨fun h => (enc_is ps hp).inj (h ▸ enc_is qs hq) hp.each hq.each, fun h => by rw [h]⟩
end Go.Proofs.YtanfimeajalffaaDoor
