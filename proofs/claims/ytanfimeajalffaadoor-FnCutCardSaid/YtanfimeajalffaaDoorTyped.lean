/-
  Words for memory, more: rows that are read and whose blocks' type is known; lists of structs. No condition: lemmas alone.
-/
import Derived.Test.YtanfimeajalffaaDoorData
namespace Go.Proofs.YtanfimeajalffaaDoor
open Go.RowKit

/-- All blocks ahead of B of whatever type but those of T are as they were. -/
def SameOn (T : List TypeId) (B : Nat) (w w' : World) : Prop := ∀ (g : Nat) (cur : Array Value) (t : TypeId) (m : Nat × Nat), g < B → w.heap[g]? = some (.cells cur t m) → t ∉ T → w'.heap[g]? = some (.cells cur t m)
theorem SameOn.refl (T : List TypeId) (B : Nat) (w : World) : SameOn T B w w := fun _ _ _ _ _ h _ => h
theorem SameOn.trans {T : List TypeId} {B : Nat} {a b c : World} (h : SameOn T B a b) (k : SameOn T B b c) : SameOn T B a c := fun g cur t m hg hc ht => k g cur t m hg (h g cur t m hg hc ht) ht
theorem SameOn.below {T : List TypeId} {B B' : Nat} {w w' : World} (h : Below B' w w') (hB : B ≤ B') : SameOn T B w w' := fun g _ _ _ hg hc _ => (h.block g (by omega)).trans hc
theorem SameOn.grown {T : List TypeId} {B : Nat} {w w' : World} {row : Option Nat} (h : w.grownBy w' row) (hT : ∀ g cur t m, row = some g → w.heap[g]? = some (.cells cur t m) → t ∈ T) : SameOn T B w w' := fun g cur t m _ hc ht => by
  have hlt : g < w.heap.size := by
    rcases Nat.lt_or_ge g w.heap.size with hlt | hge
    · exact hlt
    · rw [Array.getElem?_eq_none hge] at hc; cases hc
  exact (h.block g hlt (fun e => ht (hT g cur t m e.symm hc))).trans hc
theorem SameOn.less {T : List TypeId} {B B' : Nat} {w w' : World} (h : SameOn T B' w w') (hB : B ≤ B') : SameOn T B w w' := fun g cur t m hg => h g cur t m (by omega)
theorem SameOn.more {T T' : List TypeId} {B : Nat} {w w' : World} (h : SameOn T B w w') (hT : ∀ t ∈ T, t ∈ T') : SameOn T' B w w' := fun g cur t m hg hc ht => h g cur t m hg hc (fun h' => ht (hT t h'))
theorem SameOn.setCell {T : List TypeId} {B : Nat} {w : World} {p : Addr} {u : Value} {cs : Array Value} {t0 : TypeId} (hb : Blk w p.block t0 cs) (ht0 : t0 ∈ T) : SameOn T B w (w.setCell p u) := fun g cur t m _ hc ht => by
  by_cases e : g = p.block
  · subst e
    unfold Blk at hb
    rw [hb] at hc
    injection hc with hc
    injection hc with _ h2 _
    exact absurd (h2 ▸ ht0) ht
  · exact (Below.heap_setCell w p u g e).trans hc
/-- An append to a row of type e changes no block of another type. -/
theorem SameOn.own {B base size n : Nat} {e : TypeId} {T : List TypeId} {v : Value} {xs : List Value} {w w' : World} (ho : w.ownsRow base e size v n xs) (h : w.grownBy w' v.ownBlock) (he : e ∈ T) : SameOn T B w w' :=
  SameOn.grown h fun g cur t m hg hc => by
    rcases ho.2 with ⟨rfl, _⟩ | ⟨g', cap, cur', rfl, _, hh, _⟩
    · cases hg
    · have : g' = g := by simpa [Value.ownBlock] using hg
      subst this
      rw [hh] at hc
      injection hc with hc
      injection hc with _ h2 _
      exact h2 ▸ he

/-- A row that is read, in a block of type ty ahead of B. -/
def TR (w : World) (B : Nat) (ty : TypeId) (size : Nat) (A : Option Addr) (n : Nat) (xs : List Value) : Prop :=
  xs.length = n * size ∧ (0 < n → ∃ g o cur m, A = some ⟨g, o, none⟩ ∧ g < B ∧ w.heap[g]? = some (.cells cur ty m) ∧ ∀ j u, xs[j]? = some u → cur[o + j]? = some u)

section
variable {w w' : World} {B B' size n : Nat} {ty : TypeId} {A : Option Addr} {xs : List Value}
theorem TR.reads (h : TR w B ty size A n xs) : Reads w B size A n xs := by
  refine ⟨h.1, fun hn => ?_⟩
  obtain ⟨g, o, cur, m, rfl, hg, hc, hx⟩ := h.2 hn
  refine ⟨_, rfl, hg, fun j u hj => ?_⟩
  have hadd : (⟨g, o, none⟩ : Addr).add j = ⟨g, o + j, none⟩ := by unfold Addr.add; split <;> simp_all
  rw [hadd, cell_of_row w g (o + j) cur ty m hc]
  exact hx j u hj
theorem TR.same {T : List TypeId} (h : TR w B ty size A n xs) (hs : SameOn T B w w') (ht : ty ∉ T) : TR w' B ty size A n xs := by
  refine ⟨h.1, fun hn => ?_⟩
  obtain ⟨g, o, cur, m, rfl, hg, hc, hx⟩ := h.2 hn
  exact ⟨g, o, cur, m, rfl, hg, hs g cur ty m hg hc ht, hx⟩
theorem TR.below (h : TR w B ty size A n xs) (hb : Below B w w') : TR w' B ty size A n xs := h.same (T := []) (SameOn.below hb (Nat.le_refl _)) (by simp)
theorem TR.more (h : TR w B ty size A n xs) (hB : B ≤ B') : TR w B' ty size A n xs := by
  refine ⟨h.1, fun hn => ?_⟩
  obtain ⟨g, o, cur, m, rfl, hg, hc, hx⟩ := h.2 hn
  exact ⟨g, o, cur, m, rfl, by omega, hc, hx⟩
theorem TR.of_own {base c : Nat} (h : w.ownsRow base ty size (.slice A n c) n xs) : TR w w.heap.size ty size A n xs := by
  refine ⟨h.1, fun hn => ?_⟩
  rcases h.2 with ⟨_, h0⟩ | ⟨g, cap, cur, hv, _, hh, hc, _, hs, ht⟩
  · omega
  · injection hv with hA _ _
    subst hA
    refine ⟨g, 0, cur, (0, 0), rfl, ?_, hh, fun j u hj => ?_⟩
    · rcases Nat.lt_or_ge g w.heap.size with hlt | hge
      · exact hlt
      · rw [Array.getElem?_eq_none hge] at hh; cases hh
    · rw [← ht, List.getElem?_take] at hj
      split at hj
      · simpa using hj
      · cases hj
end

theorem own_below {w w' : World} {base : Nat} {e : TypeId} {size n : Nat} {v : Value} {xs : List Value} (h : w.ownsRow base e size v n xs) (hb : Below w.heap.size w w') : w'.ownsRow base e size v n xs := by
  refine ⟨h.1, ?_⟩
  rcases h.2 with h0 | ⟨g, cap, cur, hv, hbg, hg, h1⟩
  · exact .inl h0
  · refine .inr ⟨g, cap, cur, hv, hbg, (hb.block g ?_).trans hg, h1⟩
    rcases Nat.lt_or_ge g w.heap.size with hlt | hge
    · exact hlt
    · rw [Array.getElem?_eq_none hge] at hg; cases hg

theorem flat_get {α : Type} (n : Nat) : ∀ (css : List (List α)), (∀ cs ∈ css, cs.length = n) → ∀ (k : Nat) (hk : k < css.length) (j : Nat), j < n → css.flatten[k * n + j]? = css[k][j]?
  | [], _, k, hk, _, _ => absurd hk (by simp)
  | x :: r, h, 0, _, j, hj => by
    rw [List.flatten_cons, Nat.zero_mul, Nat.zero_add, List.getElem?_append_left (by rw [h x (List.mem_cons_self ..)]; exact hj)]
    rfl
  | x :: r, h, k + 1, hk, j, hj => by
    have hx := h x (List.mem_cons_self ..)
    have e : (k + 1) * n + j = x.length + (k * n + j) := by rw [hx, Nat.add_mul]; omega
    rw [List.flatten_cons, e, List.getElem?_append_right (by omega), Nat.add_sub_cancel_left]
    exact flat_get n r (fun cs hc => h cs (List.mem_cons_of_mem _ hc)) k (by simpa using hk) j hj
theorem flat_length {α : Type} (n : Nat) : ∀ (css : List (List α)), (∀ cs ∈ css, cs.length = n) → css.flatten.length = css.length * n
  | [], _ => by simp
  | x :: r, h => by
    rw [List.flatten_cons, List.length_append, flat_length n r (fun cs hc => h cs (List.mem_cons_of_mem _ hc)), h x (List.mem_cons_self ..), List.length_cons, Nat.add_mul]
    omega

/-- A list of structs of 'size' cells, as it is read; R tells what each struct's cells mean. -/
def ListAt {α : Type} (w : World) (B size : Nat) (R : List Value → α → Prop) (v : Value) (xs : List α) : Prop :=
  ∃ (A : Option Addr) (c : Nat) (css : List (List Value)), v = .slice A xs.length c ∧ css.length = xs.length ∧ (∀ cs ∈ css, cs.length = size) ∧ Reads w B size A xs.length css.flatten ∧ ∀ (i : Nat) (cs : List Value) (x : α), css[i]? = some cs → xs[i]? = some x → R cs x
/-- .. as the call owns it. -/
def ListOwn {α : Type} (w : World) (base : Nat) (e : TypeId) (size : Nat) (R : List Value → α → Prop) (v : Value) (xs : List α) : Prop :=
  ∃ css : List (List Value), w.ownsRow base e size v xs.length css.flatten ∧ css.length = xs.length ∧ (∀ cs ∈ css, cs.length = size) ∧ ∀ (i : Nat) (cs : List Value) (x : α), css[i]? = some cs → xs[i]? = some x → R cs x
/-- .. in a block whose type is known. -/
def ListT {α : Type} (w : World) (B : Nat) (e : TypeId) (size : Nat) (R : List Value → α → Prop) (v : Value) (xs : List α) : Prop :=
  ∃ (A : Option Addr) (c : Nat) (css : List (List Value)), v = .slice A xs.length c ∧ css.length = xs.length ∧ (∀ cs ∈ css, cs.length = size) ∧ TR w B e size A xs.length css.flatten ∧ ∀ (i : Nat) (cs : List Value) (x : α), css[i]? = some cs → xs[i]? = some x → R cs x

section
variable {α : Type} {w w' : World} {B base size : Nat} {e : TypeId} {R R' : List Value → α → Prop} {v : Value} {xs : List α}
theorem ListAt.imp (h : ListAt w B size R v xs) (hR : ∀ cs x, R cs x → R' cs x) : ListAt w B size R' v xs := by
  obtain ⟨A, c, css, h1, h2, h3, h4, h5⟩ := h
  exact ⟨A, c, css, h1, h2, h3, h4, fun i cs x a b => hR _ _ (h5 i cs x a b)⟩
theorem ListAt.below (h : ListAt w B size R v xs) (hb : Below B w w') : ListAt w' B size R v xs := by
  obtain ⟨A, c, css, h1, h2, h3, h4, h5⟩ := h
  exact ⟨A, c, css, h1, h2, h3, h4.below hb, h5⟩
theorem ListAt.more {B' : Nat} (h : ListAt w B size R v xs) (hB : B ≤ B') : ListAt w B' size R v xs := by
  obtain ⟨A, c, css, h1, h2, h3, h4, h5⟩ := h
  exact ⟨A, c, css, h1, h2, h3, h4.more hB, h5⟩
theorem ListT.imp (h : ListT w B e size R v xs) (hR : ∀ cs x, R cs x → R' cs x) : ListT w B e size R' v xs := by
  obtain ⟨A, c, css, h1, h2, h3, h4, h5⟩ := h
  exact ⟨A, c, css, h1, h2, h3, h4, fun i cs x a b => hR _ _ (h5 i cs x a b)⟩
theorem ListT.at_ (h : ListT w B e size R v xs) : ListAt w B size R v xs := by
  obtain ⟨A, c, css, h1, h2, h3, h4, h5⟩ := h
  exact ⟨A, c, css, h1, h2, h3, h4.reads, h5⟩
theorem ListT.same {T : List TypeId} (h : ListT w B e size R v xs) (hs : SameOn T B w w') (ht : e ∉ T) : ListT w' B e size R v xs := by
  obtain ⟨A, c, css, h1, h2, h3, h4, h5⟩ := h
  exact ⟨A, c, css, h1, h2, h3, h4.same hs ht, h5⟩
theorem ListT.more {B' : Nat} (h : ListT w B e size R v xs) (hB : B ≤ B') : ListT w B' e size R v xs := by
  obtain ⟨A, c, css, h1, h2, h3, h4, h5⟩ := h
  exact ⟨A, c, css, h1, h2, h3, h4.more hB, h5⟩
theorem ListOwn.imp (h : ListOwn w base e size R v xs) (hR : ∀ cs x, R cs x → R' cs x) : ListOwn w base e size R' v xs := by
  obtain ⟨css, h1, h2, h3, h4⟩ := h
  exact ⟨css, h1, h2, h3, fun i cs x a b => hR _ _ (h4 i cs x a b)⟩
theorem ListOwn.t (h : ListOwn w base e size R v xs) : ListT w w.heap.size e size R v xs := by
  obtain ⟨css, h1, h2, h3, h4⟩ := h
  obtain ⟨A, c, hv⟩ : ∃ A c, v = .slice A xs.length c := by
    rcases h1.2 with ⟨rfl, h0⟩ | ⟨g, cap, cur, rfl, _⟩
    · exact ⟨none, 0, by rw [h0]⟩
    · exact ⟨_, cap, rfl⟩
  subst hv
  exact ⟨A, c, css, rfl, h2, h3, TR.of_own h1, h4⟩
theorem ListOwn.below (h : ListOwn w base e size R v xs) (hb : Below w.heap.size w w') : ListOwn w' base e size R v xs := by
  obtain ⟨css, h1, h2, h3, h4⟩ := h
  exact ⟨css, own_below h1 hb, h2, h3, h4⟩
theorem ListOwn.nil {xs : List α} (h : xs = []) (w : World) : ListOwn w base e size R (.slice none 0 0) xs := by
  subst h
  exact ⟨[], World.ownsRow_nil _ _ _ _, rfl, (fun cs h => by cases h), (fun i cs x h => by simp at h)⟩
/-- One struct of a list that is read: where its cells lie. -/
theorem ListAt.get {A : Option Addr} {c : Nat} (h : ListAt w B size R (.slice A xs.length c) xs) (hs : 0 < size) (k : Nat) (hk : k < xs.length) :
    ∃ g o cs, A = some ⟨g, o, none⟩ ∧ g < B ∧ cs.length = size ∧ R cs xs[k] ∧ ∀ j u, cs[j]? = some u → w.cell? ⟨g, o + k * size + j, none⟩ = some u := by
  obtain ⟨A', c', css, hv, h2, h3, h4, h5⟩ := h
  injection hv with hA _ _
  subst hA
  have hkc : k < css.length := by omega
  obtain ⟨g, o, e1, e2, e3⟩ := h4.lies (Nat.mul_pos (by omega) hs)
  refine ⟨g, o, css[k], e1, e2, h3 _ (List.getElem_mem hkc), h5 k _ _ (List.getElem?_eq_getElem hkc) (List.getElem?_eq_getElem hk), fun j u hj => ?_⟩
  have hjl : j < size := by
    have := (List.getElem?_eq_some_iff.1 hj).1
    rw [h3 _ (List.getElem_mem hkc)] at this
    exact this
  have := e3 (k * size + j) u (by rw [flat_get size css h3 k hkc j hjl]; exact hj)
  rw [← Nat.add_assoc] at this
  exact this
theorem ListAt.form (h : ListAt w B size R v xs) : ∃ A c, v = .slice A xs.length c := by
  obtain ⟨A, c, css, h1, _⟩ := h
  exact ⟨A, c, h1⟩
/-- One struct more behind those that the call owns. -/
theorem ListOwn.snoc {w1 : World} {v' : Value} {cs : List Value} {x : α} {css : List (List Value)} (h1 : w1.ownsRow base e size v' (xs.length + 1) (css.flatten ++ cs)) (h2 : css.length = xs.length) (h3 : ∀ cs ∈ css, cs.length = size)
    (h4 : ∀ (i : Nat) (cs : List Value) (x : α), css[i]? = some cs → xs[i]? = some x → R cs x) (hl : cs.length = size) (hx : R cs x) : ListOwn w1 base e size R v' (xs ++ [x]) := by
  refine ⟨css ++ [cs], by simpa using h1, by simp [h2], fun c hc => ?_, fun i c y hc hy => ?_⟩
  · rcases List.mem_append.1 hc with h | h
    · exact h3 c h
    · simp at h
      rw [h]
      exact hl
  · by_cases hi : i < css.length
    · rw [List.getElem?_append_left hi] at hc
      rw [List.getElem?_append_left (by omega)] at hy
      exact h4 i c y hc hy
    · rw [List.getElem?_append_right (by omega)] at hc
      rw [List.getElem?_append_right (by omega)] at hy
      have e1 : i - css.length = 0 := by
        have := (List.getElem?_eq_some_iff.1 hc).1
        simp at this
        omega
      have e2 : i - xs.length = 0 := by omega
      rw [e1] at hc
      rw [e2] at hy
      simp at hc hy
      subst hc
      subst hy
      exact hx
end

theorem reads_row (w : World) (cs : Array Value) (t : TypeId) (m n size : Nat) (hn : cs.size = n * size) (hm : w.heap.size = m) : Reads (w.alloc (.cells cs t)) (m + 1) size (some ⟨m, 0, none⟩) n cs.toList := by
  subst hm
  refine ⟨by simp [hn], fun _ => ⟨_, rfl, by simp, fun j u hj => ?_⟩⟩
  have hadd : (⟨w.heap.size, 0, none⟩ : Addr).add j = ⟨w.heap.size, j, none⟩ := by unfold Addr.add; split <;> simp_all
  rw [hadd, cell_of_row _ w.heap.size j _ _ (0, 0) (heap_alloc_new w _)]
  simpa using hj

/-- The cells of a file whose lists lie in blocks of known types (D: the type of a directive). -/
def StrsT (w : World) (B : Nat) (v : Value) (ss : List ByteArray) : Prop := ∃ A c, v = .slice A ss.length c ∧ TR w B 9 1 A ss.length (ss.map Value.string)
def DirsT (w : World) (B : Nat) (D : TypeId) (v : Value) (ds : List DirD) : Prop := ∃ A c, v = .slice A ds.length c ∧ TR w B D 5 A ds.length (ds.flatMap dirCells)
def FileT (w : World) (B : Nat) (D : TypeId) (cs : List Value) (f : FileD) : Prop :=
  ∃ vc vi ve vd, cs = fileCells f vc vi ve vd ∧ StrsT w B vc f.cons ∧ DirsT w B D vi f.imps ∧ DirsT w B D ve f.embs ∧ DirsT w B D vd f.dirs
theorem StrsT.same {w w' : World} {B : Nat} {v : Value} {ss : List ByteArray} {T : List TypeId} (h : StrsT w B v ss) (hs : SameOn T B w w') (ht : 9 ∉ T) : StrsT w' B v ss := by
  obtain ⟨A, c, h1, h2⟩ := h
  exact ⟨A, c, h1, h2.same hs ht⟩
theorem DirsT.same {w w' : World} {B : Nat} {D : TypeId} {v : Value} {ss : List DirD} {T : List TypeId} (h : DirsT w B D v ss) (hs : SameOn T B w w') (ht : D ∉ T) : DirsT w' B D v ss := by
  obtain ⟨A, c, h1, h2⟩ := h
  exact ⟨A, c, h1, h2.same hs ht⟩
theorem FileT.same {w w' : World} {B : Nat} {D : TypeId} {cs : List Value} {f : FileD} {T : List TypeId} (h : FileT w B D cs f) (hs : SameOn T B w w') (h1 : 9 ∉ T) (h2 : D ∉ T) : FileT w' B D cs f := by
  obtain ⟨vc, vi, ve, vd, e, a, b, c, d⟩ := h
  exact ⟨vc, vi, ve, vd, e, a.same hs h1, b.same hs h2, c.same hs h2, d.same hs h2⟩
theorem FileT.more {w : World} {B B' : Nat} {D : TypeId} {cs : List Value} {f : FileD} (h : FileT w B D cs f) (hB : B ≤ B') : FileT w B' D cs f := by
  obtain ⟨vc, vi, ve, vd, e, ⟨A1, c1, a1, a2⟩, ⟨A2, c2, b1, b2⟩, ⟨A3, c3, d1, d2⟩, ⟨A4, c4, e1, e2⟩⟩ := h
  exact ⟨vc, vi, ve, vd, e, ⟨A1, c1, a1, a2.more hB⟩, ⟨A2, c2, b1, b2.more hB⟩, ⟨A3, c3, d1, d2.more hB⟩, ⟨A4, c4, e1, e2.more hB⟩⟩
theorem FileT.r {w : World} {B : Nat} {D : TypeId} {cs : List Value} {f : FileD} (h : FileT w B D cs f) : FileR w B cs f := by
  obtain ⟨vc, vi, ve, vd, e, ⟨A1, c1, a1, a2⟩, ⟨A2, c2, b1, b2⟩, ⟨A3, c3, d1, d2⟩, ⟨A4, c4, e1, e2⟩⟩ := h
  exact ⟨vc, vi, ve, vd, e, ⟨A1, c1, a1, a2.reads⟩, ⟨A2, c2, b1, b2.reads⟩, ⟨A3, c3, d1, d2.reads⟩, ⟨A4, c4, e1, e2.reads⟩⟩
theorem FileR.len {w : World} {B : Nat} {cs : List Value} {f : FileD} (h : FileR w B cs f) : cs.length = 13 := by
  obtain ⟨vc, vi, ve, vd, e, _⟩ := h
  rw [e]
  rfl
theorem FileR.one {w : World} {B : Nat} {cs : List Value} {f : FileD} (h : FileR w B cs f) : ∀ u ∈ cs, u.oneCell' = true := by
  obtain ⟨vc, vi, ve, vd, e, ⟨A1, c1, rfl, _⟩, ⟨A2, c2, rfl, _⟩, ⟨A3, c3, rfl, _⟩, ⟨A4, c4, rfl, _⟩⟩ := h
  subst e
  intro u hu
  simp only [fileCells, List.mem_cons, List.not_mem_nil, or_false] at hu
  rcases hu with rfl | rfl | rfl | rfl | rfl | rfl | rfl | rfl | rfl | rfl | rfl | rfl | rfl <;> rfl

/-- Packages as data that is read: the cells of one, a list of them. -/
def PkgR (w : World) (B : Nat) (cs : List Value) (p : PkgD) : Prop := ∃ vf, cs = [.string p.err, .string p.dir, vf] ∧ ListAt w B 13 (FileR w B) vf p.files
def PkgsAt (w : World) (B : Nat) (v : Value) (ps : List PkgD) : Prop := ListAt w B 3 (PkgR w B) v ps
theorem ListAt.files_below {w w' : World} {B : Nat} {v : Value} {fs : List FileD} (h : ListAt w B 13 (FileR w B) v fs) (hb : Below B w w') : ListAt w' B 13 (FileR w' B) v fs := (h.below hb).imp fun _ _ h => h.below hb
theorem PkgR.below {w w' : World} {B : Nat} {cs : List Value} {p : PkgD} (h : PkgR w B cs p) (hb : Below B w w') : PkgR w' B cs p := by
  obtain ⟨vf, h1, h2⟩ := h
  exact ⟨vf, h1, h2.files_below hb⟩
theorem PkgsAt.below {w w' : World} {B : Nat} {v : Value} {ps : List PkgD} (h : PkgsAt w B v ps) (hb : Below B w w') : PkgsAt w' B v ps := (ListAt.below h hb).imp fun _ _ h => h.below hb
/-- .. in blocks of known types (F: a file's type, D: a directive's). -/
def PkgT (w : World) (B : Nat) (F D : TypeId) (cs : List Value) (p : PkgD) : Prop := ∃ vf, cs = [.string p.err, .string p.dir, vf] ∧ ListT w B F 13 (FileT w B D) vf p.files
theorem PkgT.same {w w' : World} {B : Nat} {F D : TypeId} {cs : List Value} {p : PkgD} {T : List TypeId} (h : PkgT w B F D cs p) (hs : SameOn T B w w') (h1 : 9 ∉ T) (h2 : D ∉ T) (h3 : F ∉ T) : PkgT w' B F D cs p := by
  obtain ⟨vf, e, h⟩ := h
  exact ⟨vf, e, (h.same hs h3).imp fun _ _ h => h.same hs h1 h2⟩
theorem PkgT.more {w : World} {B B' : Nat} {F D : TypeId} {cs : List Value} {p : PkgD} (h : PkgT w B F D cs p) (hB : B ≤ B') : PkgT w B' F D cs p := by
  obtain ⟨vf, e, h⟩ := h
  exact ⟨vf, e, (h.more hB).imp fun _ _ h => h.more hB⟩
theorem PkgT.r {w : World} {B : Nat} {F D : TypeId} {cs : List Value} {p : PkgD} (h : PkgT w B F D cs p) : PkgR w B cs p := by
  obtain ⟨vf, e, h⟩ := h
  exact ⟨vf, e, h.at_.imp fun _ _ h => h.r⟩
end Go.Proofs.YtanfimeajalffaaDoor
