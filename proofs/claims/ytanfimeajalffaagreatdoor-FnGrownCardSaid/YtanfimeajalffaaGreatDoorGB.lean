/-
  What stands where in an index, and that the encoder's bytes have it so. Plain Lean; the premises of each theorem are its conditions.
  An index tells its packages: what stands in it, read in one way alone. Plain Lean; the premises of each theorem are its conditions.
-/
import Derived.Test.YtanfimeajalffaaGreatDoorEncMod
import Derived.Lib.VarintDec
import Derived.Lib.VarintMem
namespace Go.Proofs.YtanfimeajalffaaGreatDoor
section
open Go.RowKit

/-- One word of an index: a text's place, or a number. -/
inductive It where
  | s (x : ByteArray)
  | n (k : Nat)

def ES.it (es : ES) : It → ES
  | .s x => es.str x
  | .n k => es.int k
def It.ok : It → Prop
  | .s x => x.size ≤ 1000
  | .n k => k < 2147483648

def IntIs (b : List UInt8) (p n : Nat) : Prop := (b.drop p).take 4 = Lib.leBytes 4 n ∧ n < 2147483648
def TextAt (t : List UInt8) (off : Nat) (s : ByteArray) : Prop := s.size ≤ 1000 ∧ ∃ r, t.drop off = Lib.uvarint s.size ++ (s.data.toList ++ r)
def ItIs (b t : List UInt8) (p : Nat) : It → Prop
  | .s x => ∃ off, IntIs b p off ∧ TextAt t off x
  | .n k => IntIs b p k
def ItsAt (b t : List UInt8) (p : Nat) (l : List It) : Prop := ∀ (k : Nat) (it : It), l[k]? = some it → ItIs b t (p + 4 * k) it

/-- From lo to hi the bytes are the same; the table has grown at its end. -/
def Kept (lo hi : Nat) (es es' : ES) : Prop := (∀ i, lo ≤ i → i < hi → es'.b[i]? = es.b[i]?) ∧ ∃ y, es'.t = es.t ++ y

theorem Kept.refl (lo hi : Nat) (es : ES) : Kept lo hi es es := ⟨fun _ _ _ => rfl, [], by simp⟩
theorem Kept.trans {lo hi : Nat} {a b c : ES} (h : Kept lo hi a b) (k : Kept lo hi b c) : Kept lo hi a c := by
  obtain ⟨h1, y, h2⟩ := h
  obtain ⟨k1, z, k2⟩ := k
  exact ⟨fun i hl hh => (k1 i hl hh).trans (h1 i hl hh), y ++ z, by rw [k2, h2, List.append_assoc]⟩
theorem Kept.mono {lo hi lo' hi' : Nat} {a b : ES} (h : Kept lo hi a b) (h1 : lo ≤ lo') (h2 : hi' ≤ hi) : Kept lo' hi' a b :=
  ⟨fun i hl hh => h.1 i (by omega) (by omega), h.2⟩

theorem IntIs.lt {b : List UInt8} {p n : Nat} (h : IntIs b p n) : p + 4 ≤ b.length := by
  have := congrArg List.length h.1
  rw [le_len, List.length_take, List.length_drop] at this
  omega
theorem IntIs.keep {b b' : List UInt8} {p n : Nat} (h : IntIs b p n) (hk : ∀ i, p ≤ i → i < p + 4 → b'[i]? = b[i]?) : IntIs b' p n := by
  refine ⟨?_, h.2⟩
  rw [← h.1]
  apply List.ext_getElem?
  intro i
  rw [List.getElem?_take, List.getElem?_take]
  split
  · rw [List.getElem?_drop, List.getElem?_drop]
    exact hk _ (by omega) (by omega)
  · rfl
theorem IntIs.inj {b : List UInt8} {p n m : Nat} (h : IntIs b p n) (k : IntIs b p m) : n = m := by
  have e := h.1.symm.trans k.1
  have e2 := congrArg Lib.leNat e
  have h2 := h.2
  have k2 := k.2
  rw [Lib.leNat_leBytes 4 n (by omega), Lib.leNat_leBytes 4 m (by omega)] at e2
  exact e2
theorem IntIs.num {b : List UInt8} {p n : Nat} (h : IntIs b p n) : Lib.leNat ((b.drop p).take 4) = n := by
  have h2 := h.2
  rw [h.1, Lib.leNat_leBytes 4 n (by omega)]
theorem IntIs.new (b : List UInt8) (n : Nat) (hn : n < 2147483648) : IntIs (b ++ Lib.leBytes 4 n) b.length n := by
  refine ⟨?_, hn⟩
  rw [List.drop_left, List.take_of_length_le (by rw [le_len]; omega)]

theorem TextAt.lt {t : List UInt8} {off : Nat} {s : ByteArray} (h : TextAt t off s) : off < t.length := by
  obtain ⟨_, r, h⟩ := h
  have e := congrArg List.length h
  have := Lib.uvarint_pos s.size
  rw [List.length_drop, List.length_append] at e
  omega
theorem TextAt.grow {t : List UInt8} {off : Nat} {s : ByteArray} (h : TextAt t off s) (y : List UInt8) : TextAt (t ++ y) off s := by
  have hl := h.lt
  obtain ⟨h0, r, h⟩ := h
  refine ⟨h0, r ++ y, ?_⟩
  rw [List.drop_append_of_le_length (by omega), h]
  simp

theorem ItIs.keep {es es' : ES} {p lo hi : Nat} {it : It} (h : ItIs es.b es.t p it) (hk : Kept lo hi es es') (h1 : lo ≤ p) (h2 : p + 4 ≤ hi) : ItIs es'.b es'.t p it := by
  obtain ⟨k1, y, k2⟩ := hk
  cases it with
  | n k => exact IntIs.keep h fun i a b => k1 i (by omega) (by omega)
  | s x =>
    obtain ⟨off, a, b⟩ := h
    exact ⟨off, a.keep fun i a b => k1 i (by omega) (by omega), by rw [k2]; exact b.grow y⟩
theorem ItIs.lt {b t : List UInt8} {p : Nat} {it : It} (h : ItIs b t p it) : p + 4 ≤ b.length := by
  cases it with
  | n k => exact IntIs.lt h
  | s x =>
    obtain ⟨off, a, _⟩ := h
    exact a.lt
theorem ItsAt.keep {es es' : ES} {p lo hi : Nat} {l : List It} (h : ItsAt es.b es.t p l) (hk : Kept lo hi es es') (h1 : lo ≤ p) (h2 : p + 4 * l.length ≤ hi) : ItsAt es'.b es'.t p l := fun k it hi' => by
  have hlt := (List.getElem?_eq_some_iff.1 hi').1
  exact (h k it hi').keep hk (by omega) (by omega)

/-- What holds of the encoder's state: each text that has a place stands there. -/
structure Inv (es : ES) (kb kt : Nat) : Prop where
  ok : ∀ s n, look es.d s = some n → TextAt es.t n s
  b : es.b.length ≤ kb
  t : es.t.length ≤ kt

theorem Inv.mono {es : ES} {kb kt kb' kt' : Nat} (h : Inv es kb kt) (h1 : kb ≤ kb') (h2 : kt ≤ kt') : Inv es kb' kt' := ⟨h.ok, Nat.le_trans h.b h1, Nat.le_trans h.t h2⟩

theorem append_get (b x : List UInt8) (i : Nat) (hi : i < b.length) : (b ++ x)[i]? = b[i]? := List.getElem?_append_left hi

theorem it_step {es : ES} {kb kt : Nat} (h : Inv es kb kt) (it : It) (hi : it.ok) (hkt : kt ≤ 100000000) :
    Inv (es.it it) (kb + 4) (kt + 1002) ∧ Kept 0 es.b.length es (es.it it) ∧ (es.it it).b.length = es.b.length + 4 ∧ ItIs (es.it it).b (es.it it).t es.b.length it := by
  have hb := h.b
  have ht := h.t
  cases it with
  | n k =>
    refine ⟨⟨h.ok, ?_, Nat.le_trans ht (by omega)⟩, ⟨fun i _ hh => append_get _ _ _ hh, [], by simp [ES.it, ES.int]⟩, int_b es k, IntIs.new es.b k hi⟩
    show (es.int k).b.length ≤ _
    rw [int_b]
    omega
  | s x =>
    have e1 := str_b es x
    have e2 := str_t es x hi
    have hcases : (∃ n, look es.d x = some n ∧ es.str x = { es with b := es.b ++ Lib.leBytes 4 n }) ∨
        (look es.d x = none ∧ es.str x = { b := es.b ++ Lib.leBytes 4 es.t.length, t := es.t ++ (Lib.uvarint x.size ++ x.data.toList), d := (x, es.t.length) :: es.d }) := by
      unfold ES.str
      split
      · rename_i n hn
        exact .inl ⟨n, hn, rfl⟩
      · rename_i hn
        exact .inr ⟨hn, rfl⟩
    show Inv (es.str x) _ _ ∧ Kept 0 es.b.length es (es.str x) ∧ (es.str x).b.length = _ ∧ ItIs (es.str x).b (es.str x).t es.b.length (.s x)
    refine ⟨⟨?_, by omega, by omega⟩, ?_, e1, ?_⟩
    · rcases hcases with ⟨n, hn, e⟩ | ⟨hn, e⟩
      · rw [e]
        exact h.ok
      · rw [e]
        intro s n hs
        simp only [look] at hs
        split at hs
        · rename_i hx
          subst hx
          injection hs with hs
          subst hs
          exact ⟨hi, [], by simp⟩
        · exact (h.ok s n hs).grow _
    · rcases hcases with ⟨n, hn, e⟩ | ⟨hn, e⟩
      · rw [e]
        exact ⟨fun i _ hh => append_get _ _ _ hh, [], by simp⟩
      · rw [e]
        exact ⟨fun i _ hh => append_get _ _ _ hh, _, rfl⟩
    · rcases hcases with ⟨n, hn, e⟩ | ⟨hn, e⟩
      · rw [e]
        have := (h.ok x n hn).lt
        exact ⟨n, IntIs.new es.b n (by omega), h.ok x n hn⟩
      · rw [e]
        exact ⟨es.t.length, IntIs.new es.b _ (by omega), hi, [], by simp⟩

theorem its_step : ∀ (l : List It) (es : ES) (kb kt : Nat), Inv es kb kt → (∀ it ∈ l, it.ok) → kt + 1002 * l.length ≤ 100000000 →
    Inv (l.foldl ES.it es) (kb + 4 * l.length) (kt + 1002 * l.length) ∧ Kept 0 es.b.length es (l.foldl ES.it es) ∧ (l.foldl ES.it es).b.length = es.b.length + 4 * l.length ∧ ItsAt (l.foldl ES.it es).b (l.foldl ES.it es).t es.b.length l
  | [], es, kb, kt, h, _, _ => ⟨h, Kept.refl _ _ _, rfl, fun k it hk => by simp at hk⟩
  | a :: l, es, kb, kt, h, hok, hkt => by
    rw [List.length_cons] at hkt
    obtain ⟨i1, k1, l1, t1⟩ := it_step h a (hok a (List.mem_cons_self ..)) (by omega)
    obtain ⟨i2, k2, l2, t2⟩ := its_step l (es.it a) _ _ i1 (fun it hit => hok it (List.mem_cons_of_mem _ hit)) (by omega)
    rw [List.foldl_cons, List.length_cons]
    refine ⟨i2.mono (by omega) (by omega), k1.trans (k2.mono (Nat.le_refl _) (by omega)), by omega, fun k it hk => ?_⟩
    cases k with
    | zero =>
      simp at hk
      subst hk
      exact t1.keep k2 (by omega) (by omega)
    | succ k =>
      have := t2 k it (by simpa using hk)
      rw [l1] at this
      rw [show es.b.length + 4 * (k + 1) = es.b.length + 4 + 4 * k from by omega]
      exact this

def dirIts (d : DirD) : List It := [.s d.text, .s d.at_.fn, .n d.at_.o.toNat, .n d.at_.l.toNat, .n d.at_.c.toNat]
def dirsIts (ds : List DirD) : List It := .n ds.length :: ds.flatMap dirIts
def headIts (f : FileD) : List It := [.s f.err, .s f.perr, .s f.syn, .s f.name, .s f.pkg, .n f.ign.toNat, .n f.bin.toNat, .s f.cgo, .s f.con, .n f.cons.length]
/-- The words of a file. -/
def fileIts (f : FileD) : List It := headIts f ++ (f.cons.map It.s ++ (dirsIts f.imps ++ (dirsIts f.embs ++ dirsIts f.dirs)))

theorem strs_its (es : ES) (ss : List ByteArray) : es.strs ss = (ss.map It.s).foldl ES.it es := by
  unfold ES.strs
  rw [List.foldl_map]
  rfl
theorem dirs_its (es : ES) (ds : List DirD) : es.dirs ds = (ds.flatMap dirIts).foldl ES.it es := by
  induction ds generalizing es with
  | nil => rfl
  | cons d r ih =>
    rw [List.flatMap_cons, List.foldl_append]
    show (es.dir d).dirs r = _
    rw [ih]
    rfl
theorem file_its (es : ES) (f : FileD) : es.file f = (fileIts f).foldl ES.it es := by
  simp only [fileIts, dirsIts, List.foldl_append, List.foldl_cons, ES.file, dirs_its, strs_its]
  rfl

theorem dirIts_len (d : DirD) : (dirIts d).length = 5 := rfl
theorem flat_its_len (ds : List DirD) : (ds.flatMap dirIts).length = 5 * ds.length := by
  induction ds with
  | nil => rfl
  | cons d r ih =>
    rw [List.flatMap_cons, List.length_append, ih, List.length_cons, dirIts_len]
    omega
theorem fileIts_len (f : FileD) : (fileIts f).length = 13 + f.cons.length + 5 * f.imps.length + 5 * f.embs.length + 5 * f.dirs.length := by
  simp only [fileIts, dirsIts, headIts, List.length_append, List.length_cons, List.length_nil, List.length_map, flat_its_len]
  omega
theorem dirs_ok {ds : List DirD} (h : ∀ d ∈ ds, d.ok) (hl : ds.length ≤ 10) : ∀ it ∈ dirsIts ds, it.ok := by
  intro it hit
  simp only [dirsIts, List.mem_cons, List.mem_flatMap] at hit
  rcases hit with rfl | ⟨d, hd, hit⟩
  · show ds.length < _
    omega
  · obtain ⟨h1, h2, h3, h4, h5, h6, h7, h8⟩ := h d hd
    simp only [dirIts, List.mem_cons, List.not_mem_nil, or_false] at hit
    rcases hit with rfl | rfl | rfl | rfl | rfl
    · exact h1
    · exact h2
    · show Int.toNat _ < _
      omega
    · show Int.toNat _ < _
      omega
    · show Int.toNat _ < _
      omega
theorem file_ok {f : FileD} (h : f.Ok) : ∀ it ∈ fileIts f, it.ok := by
  have h1 := h.consL
  intro it hit
  simp only [fileIts, List.mem_append] at hit
  rcases hit with hit | hit | hit | hit | hit
  · simp only [headIts, List.mem_cons, List.not_mem_nil, or_false] at hit
    rcases hit with rfl | rfl | rfl | rfl | rfl | rfl | rfl | rfl | rfl | rfl
    · exact h.err
    · exact h.perr
    · exact h.syn
    · exact h.name
    · exact h.pkg
    · show f.ign.toNat < _
      cases f.ign <;> decide
    · show f.bin.toNat < _
      cases f.bin <;> decide
    · exact h.cgo
    · exact h.con
    · show f.cons.length < _
      omega
  · obtain ⟨s, hs, rfl⟩ := List.mem_map.1 hit
    exact h.cons s hs
  · exact dirs_ok h.imps h.impsL it hit
  · exact dirs_ok h.embs h.embsL it hit
  · exact dirs_ok h.dirs h.dirsL it hit
theorem fileIts_le {f : FileD} (h : f.Ok) : (fileIts f).length ≤ 173 := by
  have h1 := h.consL
  have h2 := h.impsL
  have h3 := h.embsL
  have h4 := h.dirsL
  rw [fileIts_len]
  omega

/-- A file, written. -/
theorem file_step {es : ES} {kb kt : Nat} (h : Inv es kb kt) (f : FileD) (hf : f.Ok) (hkt : kt ≤ 90000000) :
    Inv (es.file f) (kb + 700) (kt + 180000) ∧ Kept 0 es.b.length es (es.file f) ∧ (es.file f).b.length = es.b.length + 4 * (fileIts f).length ∧ ItsAt (es.file f).b (es.file f).t es.b.length (fileIts f) := by
  have hl := fileIts_le hf
  obtain ⟨h1, h2, h3, h4⟩ := its_step (fileIts f) es kb kt h (file_ok hf) (by omega)
  rw [← file_its] at h1 h2 h3 h4
  exact ⟨h1.mono (by omega) (by omega), h2, h3, h4⟩

theorem patch_get (l : List UInt8) (a n i : Nat) (hi : i < a ∨ a + 4 ≤ i) : (patch l a n)[i]? = l[i]? := by
  unfold patch
  rw [List.getElem?_set_ne (by omega), List.getElem?_set_ne (by omega), List.getElem?_set_ne (by omega), List.getElem?_set_ne (by omega)]
theorem patch_int (l : List UInt8) (a n : Nat) (ha : a + 4 ≤ l.length) (hn : n < 2147483648) : IntIs (patch l a n) a n := by
  refine ⟨?_, hn⟩
  have e1 : n / 65536 = n / 256 / 256 := by omega
  have e2 : n / 16777216 = n / 256 / 256 / 256 := by omega
  apply List.ext_getElem?
  intro i
  rw [List.getElem?_take]
  split
  · rename_i hi
    rw [List.getElem?_drop]
    rcases (by omega : i = 0 ∨ i = 1 ∨ i = 2 ∨ i = 3) with rfl | rfl | rfl | rfl
    · unfold patch
      rw [List.getElem?_set_ne (by omega), List.getElem?_set_ne (by omega), List.getElem?_set_ne (by omega)]
      rw [Nat.add_zero, List.getElem?_set_self (by omega)]
      simp [Lib.leBytes]
    · unfold patch
      rw [List.getElem?_set_ne (by omega), List.getElem?_set_ne (by omega)]
      rw [List.getElem?_set_self (by simp; omega)]
      simp [Lib.leBytes]
    · unfold patch
      rw [List.getElem?_set_ne (by omega)]
      rw [List.getElem?_set_self (by simp; omega), e1]
      simp [Lib.leBytes]
    · unfold patch
      rw [List.getElem?_set_self (by simp; omega), e2]
      simp [Lib.leBytes]
  · rw [List.getElem?_eq_none (by rw [le_len]; omega)]

theorem patch_kept (es : ES) (a n lo hi : Nat) (h : a + 4 ≤ lo ∨ hi ≤ a) : Kept lo hi es (es.patch a n) :=
  ⟨fun i h1 h2 => patch_get es.b a n i (by omega), [], by simp [ES.patch]⟩
theorem Inv.patch {es : ES} {kb kt : Nat} (h : Inv es kb kt) (a n : Nat) : Inv (es.patch a n) kb kt :=
  ⟨h.ok, by show (Go.Proofs.YtanfimeajalffaaGreatDoor.patch es.b a n).length ≤ _; rw [patch_length]; exact h.b, h.t⟩
theorem patch_b (es : ES) (a n : Nat) : (es.patch a n).b.length = es.b.length := patch_length _ _ _

/-- A file at the place that a word tells. -/
def FileVia (b t : List UInt8) (p lo hi : Nat) (f : FileD) : Prop := ∃ fo, IntIs b p fo ∧ lo ≤ fo ∧ fo + 4 * (fileIts f).length ≤ hi ∧ ItsAt b t fo (fileIts f)
theorem FileVia.keep {es es' : ES} {p lo hi l2 h2 : Nat} {f : FileD} (h : FileVia es.b es.t p lo hi f) (hk : Kept lo hi es es') (hk2 : Kept l2 h2 es es') (h3 : l2 ≤ p) (h4 : p + 4 ≤ h2) : FileVia es'.b es'.t p lo hi f := by
  obtain ⟨fo, a, b, c, d⟩ := h
  exact ⟨fo, a.keep fun i x y => hk2.1 i (by omega) (by omega), b, c, d.keep hk b c⟩
theorem FileVia.wide {b t : List UInt8} {p lo hi hi' : Nat} {f : FileD} (h : FileVia b t p lo hi f) (hh : hi ≤ hi') : FileVia b t p lo hi' f := by
  obtain ⟨fo, a, b, c, d⟩ := h
  exact ⟨fo, a, b, by omega, d⟩

theorem files_step (e0 : ES) (pos kb kt : Nat) (fs : List FileD) (h : Inv e0 kb kt) (hpos : pos + 4 * fs.length ≤ e0.b.length) (hok : ∀ f ∈ fs, f.Ok) (hkt : kt + 180000 * fs.length ≤ 90000000) (hkb : kb + 700 * fs.length ≤ 90000000) :
    ∀ k, k ≤ fs.length → Inv (e0.filesTo pos fs k) (kb + 700 * k) (kt + 180000 * k) ∧ e0.b.length ≤ (e0.filesTo pos fs k).b.length ∧ Kept 0 pos e0 (e0.filesTo pos fs k) ∧
      ∀ j f, j < k → fs[j]? = some f → FileVia (e0.filesTo pos fs k).b (e0.filesTo pos fs k).t (pos + 4 * j) e0.b.length (e0.filesTo pos fs k).b.length f := by
  intro k
  induction k with
  | zero => exact fun _ => ⟨h, Nat.le_refl _, Kept.refl _ _ _, fun j f hj => by omega⟩
  | succ k ih =>
    intro hk
    obtain ⟨i1, l1, k1, f1⟩ := ih (by omega)
    have hlt : k < fs.length := by omega
    rw [filesTo_succ e0 pos fs k hlt]
    have hokf := hok _ (List.getElem_mem hlt)
    generalize hek : e0.filesTo pos fs k = ek at *
    have hb := i1.b
    have i2 := i1.patch (pos + 4 * k) ek.b.length
    have hpb := patch_b ek (pos + 4 * k) ek.b.length
    obtain ⟨i3, k3, l3, t3⟩ := file_step i2 fs[k] hokf (by omega)
    rw [hpb] at k3 l3 t3
    have hpi := patch_int ek.b (pos + 4 * k) ek.b.length (by omega) (by omega)
    refine ⟨i3.mono (by omega) (by omega), by omega, ?_, fun j f hj hf => ?_⟩
    · exact (k1.trans (patch_kept ek _ _ 0 pos (by omega))).trans (k3.mono (Nat.le_refl _) (by omega))
    · by_cases hjk : j = k
      · subst hjk
        rw [List.getElem?_eq_getElem hlt] at hf
        injection hf with hf
        rw [hf] at t3 l3 k3
        rw [hf]
        refine ⟨ek.b.length, ?_, l1, ?_, t3⟩
        · exact IntIs.keep hpi fun i x y => (k3.1 i (by omega) (by omega))
        · rw [l3]
          exact Nat.le_refl _
      · have hv := f1 j f (by omega) hf
        have a1 := patch_kept ek (pos + 4 * k) ek.b.length e0.b.length ek.b.length (by omega)
        have a2 := patch_kept ek (pos + 4 * k) ek.b.length (pos + 4 * j) (pos + 4 * j + 4) (by omega)
        have hv2 := hv.keep (a1.trans (k3.mono (Nat.zero_le _) (Nat.le_refl _))) (a2.trans (k3.mono (Nat.zero_le _) (by omega))) (Nat.le_refl _) (Nat.le_refl _)
        exact hv2.wide (by omega)

def preIts (p : PkgD) : List It := [.s p.err, .s p.dir, .n p.files.length]
/-- A package at a place. -/
def PkgIs (b t : List UInt8) (off hi : Nat) (p : PkgD) : Prop :=
  ItsAt b t off (preIts p) ∧ off + 12 + 4 * p.files.length ≤ hi ∧ ∀ k f, p.files[k]? = some f → FileVia b t (off + 12 + 4 * k) off hi f
theorem PkgIs.keep {es es' : ES} {off hi : Nat} {p : PkgD} (h : PkgIs es.b es.t off hi p) (hk : Kept off hi es es') : PkgIs es'.b es'.t off hi p := by
  obtain ⟨h1, h2, h3⟩ := h
  refine ⟨h1.keep hk (Nat.le_refl _) (by simp [preIts]; omega), h2, fun k f hf => ?_⟩
  have hlt := (List.getElem?_eq_some_iff.1 hf).1
  exact (h3 k f hf).keep hk hk (by omega) (by omega)

theorem zeros_its (es : ES) (n : Nat) : es.zeros n = (List.replicate n (It.n 0)).foldl ES.it es := by
  induction n with
  | zero => rfl
  | succ n ih =>
    rw [List.replicate_succ', List.foldl_append, ← ih]
    rfl

theorem pkg_step {es : ES} {kb kt : Nat} (h : Inv es kb kt) (p : PkgD) (hp : p.Ok) (hkt : kt ≤ 70000000) (hkb : kb ≤ 70000000) :
    Inv (es.pkg p) (kb + 8000) (kt + 2000000) ∧ Kept 0 es.b.length es (es.pkg p) ∧ es.b.length ≤ (es.pkg p).b.length ∧ PkgIs (es.pkg p).b (es.pkg p).t es.b.length (es.pkg p).b.length p := by
  have hn := hp.filesL
  obtain ⟨a1, a2, a3, a4⟩ := its_step (preIts p) es kb kt h (by
    intro it hit
    simp only [preIts, List.mem_cons, List.not_mem_nil, or_false] at hit
    rcases hit with rfl | rfl | rfl
    · exact hp.err
    · exact hp.dir
    · show p.files.length < _
      omega) (by simp [preIts]; omega)
  have e1 : (preIts p).foldl ES.it es = es.pre p := rfl
  rw [e1] at a1 a2 a3 a4
  have hl3 : (preIts p).length = 3 := rfl
  rw [hl3] at a1 a3
  obtain ⟨b1, b2, b3, _⟩ := its_step (List.replicate p.files.length (It.n 0)) (es.pre p) _ _ a1 (by
    intro it hit
    rw [(List.mem_replicate.1 hit).2]
    show (0 : Nat) < _
    omega) (by simp; omega)
  rw [← zeros_its] at b1 b2 b3
  rw [List.length_replicate] at b1 b3
  obtain ⟨c1, c2, c3, c4⟩ := files_step ((es.pre p).zeros p.files.length) (es.pre p).b.length _ _ p.files b1 (by omega) hp.files (by omega) (by omega) p.files.length (Nat.le_refl _)
  have e2 : es.pkg p = ((es.pre p).zeros p.files.length).filesTo (es.pre p).b.length p.files p.files.length := rfl
  rw [← e2] at c1 c2 c3 c4
  have kk := b2.trans c3
  refine ⟨c1.mono (by omega) (by omega), a2.trans (kk.mono (Nat.le_refl _) (by omega)), by omega, a4.keep kk (by omega) (by rw [hl3]; omega), by omega, fun k f hf => ?_⟩
  have hlt := (List.getElem?_eq_some_iff.1 hf).1
  have hv := c4 k f hlt hf
  rw [a3] at hv
  obtain ⟨fo, x1, x2, x3, x4⟩ := hv
  exact ⟨fo, x1, by omega, x3, x4⟩

def tabIts (ps : List PkgD) : List It := ps.flatMap fun p => [.s p.dir, .n 0]
theorem tab_its (es : ES) (ps : List PkgD) : es.tab ps = (tabIts ps).foldl ES.it es := by
  induction ps generalizing es with
  | nil => rfl
  | cons p r ih =>
    show ((es.str p.dir).int 0).tab r = _
    rw [ih]
    rfl
theorem tabIts_len (ps : List PkgD) : (tabIts ps).length = 2 * ps.length := by
  induction ps with
  | nil => rfl
  | cons p r ih =>
    show ([It.s p.dir, .n 0] ++ tabIts r).length = _
    rw [List.length_append, ih, List.length_cons]
    simp
    omega

/-- A package at the place that a word tells. -/
def PkgVia (b t : List UInt8) (p hi : Nat) (q : PkgD) : Prop := ∃ off h, IntIs b p off ∧ h ≤ hi ∧ PkgIs b t off h q

theorem pkgs_step (e0 : ES) (kb kt : Nat) (ps : List PkgD) (h : Inv e0 kb kt) (hpos : 20 + 8 * ps.length ≤ e0.b.length) (hok : ∀ p ∈ ps, p.Ok) (hd : ∀ k p, ps[k]? = some p → ItIs e0.b e0.t (20 + 8 * k) (.s p.dir)) (hkt : kt + 2000000 * ps.length ≤ 60000000) (hkb : kb + 8000 * ps.length ≤ 60000000) :
    ∀ k, k ≤ ps.length → Inv (e0.pkgsTo 20 ps k) (kb + 8000 * k) (kt + 2000000 * k) ∧ e0.b.length ≤ (e0.pkgsTo 20 ps k).b.length ∧ Kept 0 20 e0 (e0.pkgsTo 20 ps k) ∧
      (∀ j p, ps[j]? = some p → ItIs (e0.pkgsTo 20 ps k).b (e0.pkgsTo 20 ps k).t (20 + 8 * j) (.s p.dir)) ∧
      ∀ j p, j < k → ps[j]? = some p → ∃ off hi, IntIs (e0.pkgsTo 20 ps k).b (24 + 8 * j) off ∧ e0.b.length ≤ off ∧ hi ≤ (e0.pkgsTo 20 ps k).b.length ∧ PkgIs (e0.pkgsTo 20 ps k).b (e0.pkgsTo 20 ps k).t off hi p := by
  intro k
  induction k with
  | zero => exact fun _ => ⟨h, Nat.le_refl _, Kept.refl _ _ _, hd, fun j f hj => by omega⟩
  | succ k ih =>
    intro hk
    obtain ⟨i1, l1, k1, d1, f1⟩ := ih (by omega)
    have hlt : k < ps.length := by omega
    rw [pkgsTo_succ e0 20 ps k hlt]
    have hokf := hok _ (List.getElem_mem hlt)
    generalize hek : e0.pkgsTo 20 ps k = ek at *
    have hb := i1.b
    have i2 := i1.patch (20 + 8 * k + 4) ek.b.length
    have hpb := patch_b ek (20 + 8 * k + 4) ek.b.length
    obtain ⟨i3, k3, l3, t3⟩ := pkg_step i2 ps[k] hokf (by omega) (by omega)
    rw [hpb] at k3 l3 t3
    have hpi := patch_int ek.b (20 + 8 * k + 4) ek.b.length (by omega) (by omega)
    refine ⟨i3.mono (by omega) (by omega), by omega, ?_, fun j p hp => ?_, fun j p hj hp => ?_⟩
    · exact (k1.trans (patch_kept ek _ _ 0 20 (by omega))).trans (k3.mono (Nat.le_refl _) (by omega))
    · have hjl := (List.getElem?_eq_some_iff.1 hp).1
      have a2 := patch_kept ek (20 + 8 * k + 4) ek.b.length (20 + 8 * j) (20 + 8 * j + 4) (by omega)
      exact (d1 j p hp).keep (a2.trans (k3.mono (Nat.zero_le _) (by omega))) (Nat.le_refl _) (Nat.le_refl _)
    · by_cases hjk : j = k
      · subst hjk
        rw [List.getElem?_eq_getElem hlt] at hp
        injection hp with hp
        rw [hp] at t3 l3 k3
        rw [hp]
        refine ⟨ek.b.length, _, ?_, l1, Nat.le_refl _, t3⟩
        rw [show 24 + 8 * j = 20 + 8 * j + 4 from by omega]
        exact IntIs.keep hpi fun i x y => (k3.1 i (by omega) (by omega))
      · obtain ⟨off, hi, x1, x2, x3, x4⟩ := f1 j p (by omega) hp
        have a1 := patch_kept ek (20 + 8 * k + 4) ek.b.length off hi (by omega)
        have a2 := patch_kept ek (20 + 8 * k + 4) ek.b.length (24 + 8 * j) (28 + 8 * j) (by omega)
        have a3 := (a2.trans (k3.mono (Nat.zero_le _) (by omega))).1
        exact ⟨off, hi, x1.keep fun i x y => a3 i (by omega) (by omega), x2, by omega, x4.keep (a1.trans (k3.mono (Nat.zero_le _) (by omega)))⟩

/-- Bytes are the index of packages. -/
def IndexIs (l : List UInt8) (ps : List PkgD) : Prop :=
  ∃ b t, l = b ++ t ∧ b.take 12 = magic ∧ IntIs b 12 b.length ∧ IntIs b 16 ps.length ∧ t.head? = some 0 ∧ t.getLast? = some 255 ∧ 20 + 8 * ps.length ≤ b.length ∧ l.length ≤ 80000000 ∧
    ∀ k p, ps[k]? = some p → ItIs b t (20 + 8 * k) (.s p.dir) ∧ PkgVia b t (24 + 8 * k) b.length p

theorem ItIs.grow {b t : List UInt8} {p : Nat} {it : It} (h : ItIs b t p it) (y : List UInt8) : ItIs b (t ++ y) p it := by
  cases it with
  | n k => exact h
  | s x =>
    obtain ⟨off, h1, h2⟩ := h
    exact ⟨off, h1, h2.grow y⟩
theorem PkgIs.grow {b t : List UInt8} {off hi : Nat} {p : PkgD} (h : PkgIs b t off hi p) (y : List UInt8) : PkgIs b (t ++ y) off hi p := by
  obtain ⟨h1, h2, h3⟩ := h
  refine ⟨fun k it hk => (h1 k it hk).grow y, h2, fun k f hf => ?_⟩
  obtain ⟨fo, x1, x2, x3, x4⟩ := h3 k f hf
  exact ⟨fo, x1, x2, x3, fun k it hk => (x4 k it hk).grow y⟩

theorem inv0 : Inv es0 0 1 := by
  refine ⟨fun s n h => ?_, Nat.le_refl _, Nat.le_refl _⟩
  simp only [es0, look] at h
  split at h
  · rename_i hs
    subst hs
    injection h with h
    subst h
    refine ⟨by decide, [], ?_⟩
    rw [show ByteArray.empty.size = 0 from rfl, Lib.uvarint_small (by omega)]
    rfl
  · cases h

theorem kept_t {lo hi : Nat} {a b : ES} (h : Kept lo hi a b) (x : UInt8) (hx : a.t.head? = some x) : b.t.head? = some x := by
  obtain ⟨_, y, e⟩ := h
  rw [e]
  cases hat : a.t with
  | nil => rw [hat] at hx; cases hx
  | cons c r =>
    rw [hat] at hx
    simpa using hx

theorem enc_is (ps : List PkgD) (h : PkgsOk ps) : IndexIs (enc ps) ps := by
  have hlen := h.len
  have i0 : Inv (es0.bytes magic) 12 1 := ⟨inv0.ok, Nat.le_refl _, Nat.le_refl _⟩
  have hb0 : (es0.bytes magic).b.length = 12 := rfl
  obtain ⟨i1, k1, l1, t1⟩ := its_step [.n 0, .n ps.length] _ _ _ i0 (by
    intro it hit
    simp only [List.mem_cons, List.not_mem_nil, or_false] at hit
    rcases hit with rfl | rfl
    · show (0 : Nat) < _
      omega
    · show ps.length < _
      omega) (by simp)
  have e1 : [It.n 0, .n ps.length].foldl ES.it (es0.bytes magic) = ((es0.bytes magic).int 0).int ps.length := rfl
  rw [e1] at i1 k1 l1 t1
  have hl2 : [It.n 0, .n ps.length].length = 2 := rfl
  rw [hl2] at i1 l1
  have t16 : IntIs (((es0.bytes magic).int 0).int ps.length).b 16 ps.length := t1 1 _ rfl
  have hE : encS ps = ((((es0.bytes magic).int 0).int ps.length).tab ps).pkgsTo 20 ps ps.length := rfl
  generalize ((es0.bytes magic).int 0).int ps.length = e3 at i1 k1 l1 t1 t16 hE
  rw [hb0] at l1 k1
  obtain ⟨i2, k2, l2, t2⟩ := its_step (tabIts ps) e3 _ _ i1 (by
    intro it hit
    obtain ⟨p, hp, hit⟩ := List.mem_flatMap.1 hit
    simp only [List.mem_cons, List.not_mem_nil, or_false] at hit
    rcases hit with rfl | rfl
    · exact (h.each p hp).dir
    · show (0 : Nat) < _
      omega) (by rw [tabIts_len]; omega)
  rw [← tab_its] at i2 k2 l2 t2
  rw [tabIts_len] at i2 l2
  have hdirs : ∀ k p, ps[k]? = some p → ItIs (e3.tab ps).b (e3.tab ps).t (20 + 8 * k) (.s p.dir) := by
    intro k p hp
    obtain ⟨hk, hpe⟩ := List.getElem?_eq_some_iff.1 hp
    have hg := flatMap_get (fun p : PkgD => [It.s p.dir, It.n 0]) 2 (fun _ => rfl) ps k hk 0 (by omega)
    have := t2 (k * 2 + 0) (.s p.dir) (by
      show (tabIts ps)[k * 2 + 0]? = _
      unfold tabIts
      rw [hg, hpe]
      rfl)
    rw [show 20 + 8 * k = e3.b.length + 4 * (k * 2 + 0) from by omega]
    exact this
  obtain ⟨i3, l3, k3, d3, f3⟩ := pkgs_step (e3.tab ps) _ _ ps i2 (by omega) h.each hdirs (by omega) (by omega) ps.length (Nat.le_refl _)
  rw [← hE] at i3 l3 k3 d3 f3
  have hmag : (encS ps).b.take 12 = magic := by
    have kk := (k1.trans (k2.mono (Nat.le_refl _) (by omega))).trans (k3.mono (Nat.le_refl _) (by omega))
    have e : (es0.bytes magic).b = magic := rfl
    rw [← e]
    apply List.ext_getElem?
    intro i
    rw [List.getElem?_take]
    split
    · exact kk.1 i (by omega) (by omega)
    · rw [List.getElem?_eq_none (by rw [hb0]; omega)]
  have ht0 : (encS ps).t.head? = some 0 := kept_t k3 0 (kept_t k2 0 (kept_t k1 0 rfl))
  have t16' : IntIs (encS ps).b 16 ps.length := t16.keep fun i x y => (k3.1 i (by omega) (by omega)).trans (k2.1 i (by omega) (by omega))
  have hee : enc ps = Go.Proofs.YtanfimeajalffaaGreatDoor.patch (encS ps).b 12 (encS ps).b.length ++ ((encS ps).t ++ [255]) := by
    show ((Go.Proofs.YtanfimeajalffaaGreatDoor.patch (encS ps).b 12 (encS ps).b.length ++ (encS ps).t) ++ [255]) = _
    rw [List.append_assoc]
  have hbb := i3.b
  have htb := i3.t
  generalize hes : encS ps = es at *
  have hpl : (es.patch 12 es.b.length).b = Go.Proofs.YtanfimeajalffaaGreatDoor.patch es.b 12 es.b.length := rfl
  have hpt : (es.patch 12 es.b.length).t = es.t := rfl
  have hbl : (Go.Proofs.YtanfimeajalffaaGreatDoor.patch es.b 12 es.b.length).length = es.b.length := patch_length _ _ _
  refine ⟨Go.Proofs.YtanfimeajalffaaGreatDoor.patch es.b 12 es.b.length, es.t ++ [255], hee, ?_, ?_, ?_, ?_, by simp, by omega, ?_, fun k p hp => ⟨?_, ?_⟩⟩
  · rw [← hmag]
    apply List.ext_getElem?
    intro i
    rw [List.getElem?_take, List.getElem?_take]
    split
    · exact patch_get _ _ _ _ (by omega)
    · rfl
  · rw [hbl]
    exact patch_int _ _ _ (by omega) (by omega)
  · exact t16'.keep fun i x y => patch_get _ _ _ _ (by omega)
  · cases hat : es.t with
    | nil => rw [hat] at ht0; cases ht0
    | cons c r =>
      rw [hat] at ht0
      simpa using ht0
  · rw [hee, List.length_append, List.length_append, hbl]
    simp
    omega
  · have := (d3 k p hp).keep (patch_kept es 12 es.b.length 20 es.b.length (by omega)) (by omega) (d3 k p hp).lt
    exact this.grow _
  · have hk := (List.getElem?_eq_some_iff.1 hp).1
    obtain ⟨off, hi, x1, x2, x3, x4⟩ := f3 k p hk hp
    refine ⟨off, hi, x1.keep fun i x y => patch_get _ _ _ _ (by omega), by omega, ?_⟩
    have := x4.keep (patch_kept es 12 es.b.length off hi (by omega))
    exact this.grow _
end
section
open Go.RowKit

/-- A length below 2^14, read again. -/
theorem uvarintDec_uvarint (n : Nat) (hn : n < 16384) (r : List UInt8) : Lib.uvarintDec (Lib.uvarint n ++ r) = (n, ((Lib.uvarint n).length : Int)) := by
  by_cases h : n < 128
  · rw [Lib.uvarint_small h]
    have e : (n.toUInt8).toNat = n := Lib.toUInt8_toNat (by omega)
    simp [Lib.uvarintDec, Lib.uvarintFrom, e, h]
  · rw [Lib.uvarint_big (by omega), Lib.uvarint_small (by omega)]
    have e1 : ((n % 128 + 128).toUInt8).toNat = n % 128 + 128 := Lib.toUInt8_toNat (by omega)
    have e2 : ((n / 128).toUInt8).toNat = n / 128 := Lib.toUInt8_toNat (by omega)
    generalize (n % 128 + 128).toUInt8 = b1 at e1 ⊢
    generalize (n / 128).toUInt8 = b2 at e2 ⊢
    have h1 : ¬ b1.toNat < 128 := by omega
    have h2 : b2.toNat < 128 := by omega
    have h3 : b1.toNat % 128 + b2.toNat * 128 = n := by omega
    simp [Lib.uvarintDec, Lib.uvarintFrom, h1, h2, h3]

theorem TextAt.inj {t : List UInt8} {off : Nat} {s s' : ByteArray} (h : TextAt t off s) (k : TextAt t off s') : s = s' := by
  obtain ⟨h0, r, h⟩ := h
  obtain ⟨k0, r', k⟩ := k
  have e := h.symm.trans k
  have e2 := congrArg Lib.uvarintDec e
  rw [uvarintDec_uvarint _ (by omega), uvarintDec_uvarint _ (by omega)] at e2
  injection e2 with e3 _
  rw [e3] at e
  have e4 := List.append_cancel_left e
  have e5 : s.data.toList = s'.data.toList := List.append_inj_left e4 (by simpa using e3)
  have e6 : s.data = s'.data := Array.toList_inj.1 e5
  cases s
  cases s'
  simp at e6
  rw [e6]
theorem ItIs.inj_s {b t : List UInt8} {p : Nat} {x y : ByteArray} (h : ItIs b t p (.s x)) (k : ItIs b t p (.s y)) : x = y := by
  obtain ⟨o1, h1, h2⟩ := h
  obtain ⟨o2, k1, k2⟩ := k
  rw [h1.inj k1] at h2
  exact h2.inj k2
theorem ItIs.inj_n {b t : List UInt8} {p n m : Nat} (h : ItIs b t p (.n n)) (k : ItIs b t p (.n m)) : n = m := IntIs.inj h k

theorem ItsAt.head {b t : List UInt8} {p : Nat} {a : It} {l : List It} (h : ItsAt b t p (a :: l)) : ItIs b t p a := h 0 a rfl
theorem ItsAt.tail {b t : List UInt8} {p : Nat} {a : It} {l : List It} (h : ItsAt b t p (a :: l)) : ItsAt b t (p + 4) l := fun k it hk => by
  have := h (k + 1) it (by simpa using hk)
  rw [show p + 4 + 4 * k = p + 4 * (k + 1) from by omega]
  exact this
theorem ItsAt.left {b t : List UInt8} {p : Nat} {x y : List It} (h : ItsAt b t p (x ++ y)) : ItsAt b t p x := fun k it hk => by
  have hl := (List.getElem?_eq_some_iff.1 hk).1
  exact h k it (by rw [List.getElem?_append_left hl]; exact hk)
theorem ItsAt.right {b t : List UInt8} {p : Nat} {x y : List It} (h : ItsAt b t p (x ++ y)) : ItsAt b t (p + 4 * x.length) y := fun k it hk => by
  have := h (x.length + k) it (by rw [List.getElem?_append_right (by omega), Nat.add_sub_cancel_left]; exact hk)
  rw [show p + 4 * x.length + 4 * k = p + 4 * (x.length + k) from by omega]
  exact this

/-- Directives at a place, and a file. -/
def DirsIs (b t : List UInt8) (p : Nat) (ds : List DirD) : Prop := IntIs b p ds.length ∧ ∀ k d, ds[k]? = some d → ItsAt b t (p + 4 + 20 * k) (dirIts d)
def FileIs (b t : List UInt8) (p : Nat) (f : FileD) : Prop :=
  ItsAt b t p (headIts f) ∧ (∀ k s, f.cons[k]? = some s → ItIs b t (p + 40 + 4 * k) (.s s)) ∧ DirsIs b t (p + 40 + 4 * f.cons.length) f.imps ∧
    DirsIs b t (p + 44 + 4 * f.cons.length + 20 * f.imps.length) f.embs ∧ DirsIs b t (p + 48 + 4 * f.cons.length + 20 * f.imps.length + 20 * f.embs.length) f.dirs

theorem DirsIs.of {b t : List UInt8} {p : Nat} {ds : List DirD} (h : ItsAt b t p (dirsIts ds)) : DirsIs b t p ds := by
  refine ⟨h.head, fun k d hd j it hj => ?_⟩
  obtain ⟨hk, hde⟩ := List.getElem?_eq_some_iff.1 hd
  have hj5 : j < 5 := (List.getElem?_eq_some_iff.1 hj).1
  have hg := flatMap_get dirIts 5 (fun _ => rfl) ds k hk j hj5
  have := h.tail (k * 5 + j) it (by rw [hg, hde]; exact hj)
  rw [show p + 4 + 20 * k + 4 * j = p + 4 + 4 * (k * 5 + j) from by omega]
  exact this
theorem dirsIts_len (ds : List DirD) : (dirsIts ds).length = 1 + 5 * ds.length := by
  simp only [dirsIts, List.length_cons, flat_its_len]
  omega
theorem FileIs.of {b t : List UInt8} {p : Nat} {f : FileD} (h : ItsAt b t p (fileIts f)) : FileIs b t p f := by
  unfold fileIts at h
  have h1 := h.right
  have h2 := h1.right
  have h3 := h2.right
  have h4 := h3.left
  have h5 := h3.right
  have hl : (headIts f).length = 10 := rfl
  simp only [hl, List.length_map, dirsIts_len] at h1 h2 h3 h4 h5
  refine ⟨h.left, fun k s hs => ?_, ?_, ?_, ?_⟩
  · have := h1.left k (.s s) (by rw [List.getElem?_map, hs]; rfl)
    exact this
  · exact DirsIs.of h2.left
  · have := DirsIs.of h4
    rw [show p + 44 + 4 * f.cons.length + 20 * f.imps.length = p + 4 * 10 + 4 * f.cons.length + 4 * (1 + 5 * f.imps.length) from by omega]
    exact this
  · have := DirsIs.of h5
    rw [show p + 48 + 4 * f.cons.length + 20 * f.imps.length + 20 * f.embs.length = p + 4 * 10 + 4 * f.cons.length + 4 * (1 + 5 * f.imps.length) + 4 * (1 + 5 * f.embs.length) from by omega]
    exact this

theorem toNat_inj {a b : Int} (ha : 0 ≤ a) (hb : 0 ≤ b) (h : a.toNat = b.toNat) : a = b := by omega
theorem dir_inj {b t : List UInt8} {p : Nat} {d e : DirD} (h : ItsAt b t p (dirIts d)) (k : ItsAt b t p (dirIts e)) (hd : d.ok) (he : e.ok) : d = e := by
  obtain ⟨_, _, a1, _, a2, _, a3, _⟩ := hd
  obtain ⟨_, _, b1, _, b2, _, b3, _⟩ := he
  have c0 := ItIs.inj_s (h 0 _ rfl) (k 0 _ rfl)
  have c1 := ItIs.inj_s (h 1 _ rfl) (k 1 _ rfl)
  have c2 := toNat_inj a1 b1 (ItIs.inj_n (h 2 _ rfl) (k 2 _ rfl))
  have c3 := toNat_inj a2 b2 (ItIs.inj_n (h 3 _ rfl) (k 3 _ rfl))
  have c4 := toNat_inj a3 b3 (ItIs.inj_n (h 4 _ rfl) (k 4 _ rfl))
  obtain ⟨x, y, z, u, v⟩ := d
  obtain ⟨x', y', z', u', v'⟩ := e
  simp only at c0 c1 c2 c3 c4
  rw [c0, c1, c2, c3, c4]
theorem DirsIs.inj {b t : List UInt8} {p : Nat} {ds es : List DirD} (h : DirsIs b t p ds) (k : DirsIs b t p es) (hd : ∀ d ∈ ds, d.ok) (he : ∀ d ∈ es, d.ok) : ds = es := by
  have hl := h.1.inj k.1
  refine List.ext_getElem hl fun i h1 h2 => ?_
  exact dir_inj (h.2 i _ (List.getElem?_eq_getElem h1)) (k.2 i _ (List.getElem?_eq_getElem h2)) (hd _ (List.getElem_mem h1)) (he _ (List.getElem_mem h2))
theorem bool_inj {a b : Bool} (h : a.toNat = b.toNat) : a = b := by cases a <;> cases b <;> simp_all
theorem FileIs.inj {b t : List UInt8} {p : Nat} {f g : FileD} (h : FileIs b t p f) (k : FileIs b t p g) (hf : f.Ok) (hg : g.Ok) : f = g := by
  obtain ⟨h1, h2, h3, h4, h5⟩ := h
  obtain ⟨k1, k2, k3, k4, k5⟩ := k
  have c0 := ItIs.inj_s (h1 0 _ rfl) (k1 0 _ rfl)
  have c1 := ItIs.inj_s (h1 1 _ rfl) (k1 1 _ rfl)
  have c2 := ItIs.inj_s (h1 2 _ rfl) (k1 2 _ rfl)
  have c3 := ItIs.inj_s (h1 3 _ rfl) (k1 3 _ rfl)
  have c4 := ItIs.inj_s (h1 4 _ rfl) (k1 4 _ rfl)
  have c5 := bool_inj (ItIs.inj_n (h1 5 _ rfl) (k1 5 _ rfl))
  have c6 := bool_inj (ItIs.inj_n (h1 6 _ rfl) (k1 6 _ rfl))
  have c7 := ItIs.inj_s (h1 7 _ rfl) (k1 7 _ rfl)
  have c8 := ItIs.inj_s (h1 8 _ rfl) (k1 8 _ rfl)
  have c9 := ItIs.inj_n (h1 9 _ rfl) (k1 9 _ rfl)
  have d1 : f.cons = g.cons := List.ext_getElem c9 fun i x y => ItIs.inj_s (h2 i _ (List.getElem?_eq_getElem x)) (k2 i _ (List.getElem?_eq_getElem y))
  rw [← d1] at k3 k4 k5
  have d2 := h3.inj k3 hf.imps hg.imps
  rw [← d2] at k4 k5
  have d3 := h4.inj k4 hf.embs hg.embs
  rw [← d3] at k5
  have d4 := h5.inj k5 hf.dirs hg.dirs
  cases f
  cases g
  simp only at c0 c1 c2 c3 c4 c5 c6 c7 c8 d1 d2 d3 d4
  rw [c0, c1, c2, c3, c4, c5, c6, c7, c8, d1, d2, d3, d4]
theorem FileVia.inj {b t : List UInt8} {p lo hi lo' hi' : Nat} {f g : FileD} (h : FileVia b t p lo hi f) (k : FileVia b t p lo' hi' g) (hf : f.Ok) (hg : g.Ok) : f = g := by
  obtain ⟨o, h1, _, _, h2⟩ := h
  obtain ⟨o', k1, _, _, k2⟩ := k
  rw [h1.inj k1] at h2
  exact (FileIs.of h2).inj (FileIs.of k2) hf hg
theorem PkgIs.inj {b t : List UInt8} {off hi hi' : Nat} {p q : PkgD} (h : PkgIs b t off hi p) (k : PkgIs b t off hi' q) (hp : p.Ok) (hq : q.Ok) : p = q := by
  obtain ⟨h1, _, h2⟩ := h
  obtain ⟨k1, _, k2⟩ := k
  have c0 := ItIs.inj_s (h1 0 _ rfl) (k1 0 _ rfl)
  have c1 := ItIs.inj_s (h1 1 _ rfl) (k1 1 _ rfl)
  have c2 := ItIs.inj_n (h1 2 _ rfl) (k1 2 _ rfl)
  have d1 : p.files = q.files := List.ext_getElem c2 fun i x y => (h2 i _ (List.getElem?_eq_getElem x)).inj (k2 i _ (List.getElem?_eq_getElem y)) (hp.files _ (List.getElem_mem x)) (hq.files _ (List.getElem_mem y))
  cases p
  cases q
  simp only at c0 c1 d1
  rw [c0, c1, d1]
theorem IndexIs.inj {l : List UInt8} {ps qs : List PkgD} (h : IndexIs l ps) (k : IndexIs l qs) (hp : ∀ p ∈ ps, p.Ok) (hq : ∀ p ∈ qs, p.Ok) : ps = qs := by
  obtain ⟨b, t, h1, _, h2, h3, _, _, hl, _, h4⟩ := h
  obtain ⟨b', t', k1, _, k2, k3, _, _, kl, _, k4⟩ := k
  have eb : IntIs l 12 b.length := h2.keep fun i x y => by rw [h1]; exact List.getElem?_append_left (by omega)
  have eb' : IntIs l 12 b'.length := k2.keep fun i x y => by rw [k1]; exact List.getElem?_append_left (by omega)
  have e := eb.inj eb'
  obtain ⟨rfl, rfl⟩ := List.append_inj (h1.symm.trans k1) e
  have en := h3.inj k3
  refine List.ext_getElem en fun i x y => ?_
  obtain ⟨_, o, hi, a1, a2, a3⟩ := h4 i _ (List.getElem?_eq_getElem x)
  obtain ⟨_, o', hi', c1, c2, c3⟩ := k4 i _ (List.getElem?_eq_getElem y)
  rw [a1.inj c1] at a3
  exact a3.inj c3 (hp _ (List.getElem_mem x)) (hq _ (List.getElem_mem y))
/-- Different packages have different indices. -/
theorem enc_inj {ps qs : List PkgD} (hp : PkgsOk ps) (hq : PkgsOk qs) : enc ps = enc qs ↔ ps = qs :=
  ⟨fun h => (enc_is ps hp).inj (h ▸ enc_is qs hq) hp.each hq.each, fun h => by rw [h]⟩
end
end Go.Proofs.YtanfimeajalffaaGreatDoor
