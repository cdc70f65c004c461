/-
  The contract of given: directives as an index takes them. Condition: a list that lies ahead, of at most 1000.
  Words for memory, more: rows that are read and whose blocks' type is known; lists of structs. No condition: lemmas alone.
  The contract of givenFile: a file as an index takes it. Condition: its lists lie ahead, of at most 1000 elements.
  A region that draws its order: what yields its value in every world that meets S is taken first, where nothing but the region's last operation breaks S. No program in sight.
  A region that draws its order, once more: what yields its value in every world that meets S is taken first as long as operation s has not run; what yields its value in every world is taken first at any time. No program in sight.
  A block that is filled from its head on: what make laid, and stores in their order. No condition: lemmas alone.
  The contract of told: directives as an index tells them. Condition: a list that lies ahead, of at most 1000.
  The contract of toldFile: a file as an index tells it. Condition: its lists lie ahead, of at most 1000 elements.
-/
import Derived.Test.YtanfimeajalffaaGreatDoorEncMod2
import Derived.Test.YtanfimeajalffaaGreatDoorGA
import Derived.Deep.RegionHeld3
import Derived.Deep.DrawnRows
import Derived.Maps.RangeWalk
import Derived.Deep.MidRow
import Derived.Laws.MakeOwn
namespace Go.Proofs.YtanfimeajalffaaGreatDoor
section
open Go.RowKit

theorem dir_info : (Tryz.prog.info? 90).map (fun i => (i.zero, i.size, i.bytes)) = some (some (.agg #[.string ByteArray.empty, .string ByteArray.empty, .int .i64 0, .int .i64 0, .int .i64 0]), 5, 56) := by kernel_rfl

theorem dirs_one (d : DirD) : ∀ u ∈ dirCells d, u.oneCell' = true := by
  intro u hu
  simp only [dirCells, List.mem_cons, List.not_mem_nil, or_false] at hu
  rcases hu with rfl | rfl | rfl | rfl | rfl <;> rfl
theorem flat_len (ds : List DirD) : (ds.flatMap dirCells).length = ds.length * 5 := by
  induction ds with
  | nil => rfl
  | cons d r ih =>
    rw [List.flatMap_cons, List.length_append, ih, List.length_cons]
    show 5 + _ = _
    omega
theorem flat_snoc (ds : List DirD) (k : Nat) (hk : k < ds.length) : (ds.take (k + 1)).flatMap dirCells = (ds.take k).flatMap dirCells ++ dirCells ds[k] := by
  rw [List.take_add_one, List.getElem?_eq_getElem hk, List.flatMap_append]
  simp
theorem cells_new (w : World) (cs : Array Value) (t : TypeId) (n : Nat) (hn : w.heap.size = n) : ∀ j u, cs.toList[j]? = some u → (w.alloc (.cells cs t)).cell? ((⟨n, 0, none⟩ : Addr).add j) = some u := by
  subst hn
  intro j u hj
  have hadd : (⟨w.heap.size, 0, none⟩ : Addr).add j = ⟨w.heap.size, j, none⟩ := by unfold Addr.add; split <;> simp_all
  rw [hadd, cell_of_row _ w.heap.size j _ _ (0, 0) (heap_alloc_new w _)]
  simpa using hj

set_option maxHeartbeats 4000000 in
set_option maxRecDepth 100000 in
theorem given_any (B : Nat) (v : Value) (ds : List DirD) (w : World) (hB : B ≤ w.heap.size) (hl : ds.length ≤ 1000) (hd : DirsAt w B v ds) :
    Calls Tryz.prog 31 #[v] w fun e w' => ∃ A c, e = .returned (.slice A ds.length c) ∧ w'.ownsRow w.heap.size 90 5 (.slice A ds.length c) ds.length (ds.flatMap dirCells) ∧ Below w.heap.size w w' := by
  obtain ⟨i0, hi0, hz0, hz1, hz2⟩ := info_parts' dir_info
  obtain ⟨A, c, rfl, hrd⟩ := hd
  have HRD := Lib.hid hrd
  have hown0 : (w.alloc (.cells #[] 90)).ownsRow w.heap.size 90 5 (.slice (some ⟨w.heap.size, 0, none⟩) 0 0) 0 [] := World.ownsRow_made w #[] 0 (Nat.le_refl _) (by simp [maxLen]) rfl
  have hbw0 : Below w.heap.size w (w.alloc (.cells #[] 90)) := (Below.refl _ _).alloc (Nat.le_refl _) _
  have HOW0 := Lib.hid hown0
  clear hrd hown0
  go_enter Tryz.func31, Tryz.ntmps31
  go_wp2_with fail
  go_loopw [3, 5, 9] (fun v _ i wr => ∃ k : Nat, k ≤ ds.length ∧ i = .int .i64 k ∧ wr.ownsRow w.heap.size 90 5 v k ((ds.take k).flatMap dirCells) ∧ Below w.heap.size w wr) (fun _ _ i _ => ds.length - (intOf i).toNat)
  case atStart => exact ⟨0, Nat.zero_le _, rfl, HOW0.out, hbw0⟩
  case round =>
    obtain ⟨k, hk, rfl, hown, hF⟩ := hrel
    clear hbw0
    have hsz := hF.size
    by_cases hlt : k < ds.length
    · obtain ⟨ag, ao, rfl, hab, hc0, hc1, hc2, hc3, hc4⟩ := DirsAt.cells (HRD.out.below (hF.mono hB)) k hlt
      have hsn := Lib.hid (flat_snoc ds k hlt)
      generalize ds[k] = d at hc0 hc1 hc2 hc3 hc4 hsn
      have hown2 := (hown.alloc (.cells #[.string d.text, .string d.at_.fn, .int .i64 d.at_.o, .int .i64 d.at_.l, .int .i64 d.at_.c] 101)).alloc (.cells (dirCells d).toArray 90)
      have hnew := cells_new (wr.alloc (.cells #[.string d.text, .string d.at_.fn, .int .i64 d.at_.o, .int .i64 d.at_.l, .int .i64 d.at_.c] 101)) (dirCells d).toArray 90 (wr.heap.size + 1) (by simp)
      have hF2 : Below w.heap.size w ((wr.alloc (.cells #[.string d.text, .string d.at_.fn, .int .i64 d.at_.o, .int .i64 d.at_.l, .int .i64 d.at_.c] 101)).alloc (.cells (dirCells d).toArray 90)) := (hF.alloc hsz _).alloc (by simp; omega) _
      have hown0 := hown
      clear hown
      go_wp2_with (at_builtin; refine wpList_append_own_at _ rfl (.tmp 13) (.tmp 30) _ rfl w.heap.size 90 i0 _ 5 56 Tryz.underlying54 hi0 hz0 hz1 hz2 rfl (by decide) _ k _ rfl hown2 ⟨wr.heap.size + 1, 0, none⟩ 1 1 (dirCells d) rfl rfl hnew (dirs_one d) (by unfold maxLen; omega) (by omega) (by simp; omega) ?_; intro v4 w4 hown4 hgrow4 _ hat4)
      have hF4 : Below w.heap.size w w4 := hF2.grown hgrow4 hF2.size (fun j hj => (hown0.lt j hj).1)
      have hown5 : w4.ownsRow w.heap.size 90 5 v4 (k + 1) ((ds.take (k + 1)).flatMap dirCells) := by
        rw [hsn.out]
        exact hown4
      have HO5 := Lib.hid hown5
      clear hown4 hown5 hgrow4 hat4 hown0 hown2 hnew
      go_roundw
      case rel => exact ⟨k + 1, by omega, by go_num, HO5.out, hF4⟩
      case measure => simp [intOf]; omega
    · have hkl : k = ds.length := by omega
      subst hkl
      rw [List.take_length] at hown
      obtain ⟨A', c', hv⟩ := own_form' hown
      subst hv
      have HO := Lib.hid hown
      clear hown
      go_wp2_with fail
      go_ret
      exact ⟨A', c', rfl, HO.out, hF⟩
end
section
open Go.RowKit

/-- All blocks ahead of B of whatever type but those of T are as they were. -/
def SameOn (T : List TypeId) (B : Nat) (w w' : World) : Prop := ∀ (g : Nat) (cur : Array Value) (t : TypeId) (m : Nat × Nat), g < B → w.heap[g]? = some (.cells cur t m) → t ∉ T → w'.heap[g]? = some (.cells cur t m)
theorem SameOn.refl (T : List TypeId) (B : Nat) (w : World) : SameOn T B w w := fun _ _ _ _ _ h _ => h
theorem SameOn.trans {T : List TypeId} {B : Nat} {a b c : World} (h : SameOn T B a b) (k : SameOn T B b c) : SameOn T B a c := fun g cur t m hg hc ht => k g cur t m hg (h g cur t m hg hc ht) ht
theorem SameOn.below {T : List TypeId} {B B' : Nat} {w w' : World} (h : Below B' w w') (hB : B ≤ B') : SameOn T B w w' := fun g _ _ _ hg hc _ => (h.block g (by omega)).trans hc
theorem SameOn.grown {T : List TypeId} {B : Nat} {w w' : World} {row : Option Nat} (h : w.grownBy w' row) (hT : ∀ g cur t m, row = some g → w.heap[g]? = some (.cells cur t m) → t ∈ T) : SameOn T B w w' := fun g cur t m _ hc ht => by
  have hlt : g < w.heap.size := by
    rcases Nat.lt_or_ge g w.heap.size with hlt | hge
    · exact hlt
    · rw [Array.getElem?_eq_none hge] at hc; cases hc
  exact (h.block g hlt (fun e => ht (hT g cur t m e.symm hc))).trans hc
theorem SameOn.less {T : List TypeId} {B B' : Nat} {w w' : World} (h : SameOn T B' w w') (hB : B ≤ B') : SameOn T B w w' := fun g cur t m hg => h g cur t m (by omega)
theorem SameOn.more {T T' : List TypeId} {B : Nat} {w w' : World} (h : SameOn T B w w') (hT : ∀ t ∈ T, t ∈ T') : SameOn T' B w w' := fun g cur t m hg hc ht => h g cur t m hg hc (fun h' => ht (hT t h'))
theorem SameOn.setCell {T : List TypeId} {B : Nat} {w : World} {p : Addr} {u : Value} {cs : Array Value} {t0 : TypeId} (hb : Blk w p.block t0 cs) (ht0 : t0 ∈ T) : SameOn T B w (w.setCell p u) := fun g cur t m _ hc ht => by
  by_cases e : g = p.block
  · subst e
    unfold Blk at hb
    rw [hb] at hc
    injection hc with hc
    injection hc with _ h2 _
    exact absurd (h2 ▸ ht0) ht
  · exact (Below.heap_setCell w p u g e).trans hc
/-- An append to a row of type e changes no block of another type. -/
theorem SameOn.own {B base size n : Nat} {e : TypeId} {T : List TypeId} {v : Value} {xs : List Value} {w w' : World} (ho : w.ownsRow base e size v n xs) (h : w.grownBy w' v.ownBlock) (he : e ∈ T) : SameOn T B w w' :=
  SameOn.grown h fun g cur t m hg hc => by
    rcases ho.2 with ⟨rfl, _⟩ | ⟨g', cap, cur', rfl, _, hh, _⟩
    · cases hg
    · have : g' = g := by simpa [Value.ownBlock] using hg
      subst this
      rw [hh] at hc
      injection hc with hc
      injection hc with _ h2 _
      exact h2 ▸ he

/-- A row that is read, in a block of type ty ahead of B. -/
def TR (w : World) (B : Nat) (ty : TypeId) (size : Nat) (A : Option Addr) (n : Nat) (xs : List Value) : Prop :=
  xs.length = n * size ∧ (0 < n → ∃ g o cur m, A = some ⟨g, o, none⟩ ∧ g < B ∧ w.heap[g]? = some (.cells cur ty m) ∧ ∀ j u, xs[j]? = some u → cur[o + j]? = some u)

section
variable {w w' : World} {B B' size n : Nat} {ty : TypeId} {A : Option Addr} {xs : List Value}
theorem TR.reads (h : TR w B ty size A n xs) : Reads w B size A n xs := by
  refine ⟨h.1, fun hn => ?_⟩
  obtain ⟨g, o, cur, m, rfl, hg, hc, hx⟩ := h.2 hn
  refine ⟨_, rfl, hg, fun j u hj => ?_⟩
  have hadd : (⟨g, o, none⟩ : Addr).add j = ⟨g, o + j, none⟩ := by unfold Addr.add; split <;> simp_all
  rw [hadd, cell_of_row w g (o + j) cur ty m hc]
  exact hx j u hj
theorem TR.same {T : List TypeId} (h : TR w B ty size A n xs) (hs : SameOn T B w w') (ht : ty ∉ T) : TR w' B ty size A n xs := by
  refine ⟨h.1, fun hn => ?_⟩
  obtain ⟨g, o, cur, m, rfl, hg, hc, hx⟩ := h.2 hn
  exact ⟨g, o, cur, m, rfl, hg, hs g cur ty m hg hc ht, hx⟩
theorem TR.below (h : TR w B ty size A n xs) (hb : Below B w w') : TR w' B ty size A n xs := h.same (T := []) (SameOn.below hb (Nat.le_refl _)) (by simp)
theorem TR.more (h : TR w B ty size A n xs) (hB : B ≤ B') : TR w B' ty size A n xs := by
  refine ⟨h.1, fun hn => ?_⟩
  obtain ⟨g, o, cur, m, rfl, hg, hc, hx⟩ := h.2 hn
  exact ⟨g, o, cur, m, rfl, by omega, hc, hx⟩
theorem TR.of_own {base c : Nat} (h : w.ownsRow base ty size (.slice A n c) n xs) : TR w w.heap.size ty size A n xs := by
  refine ⟨h.1, fun hn => ?_⟩
  rcases h.2 with ⟨_, h0⟩ | ⟨g, cap, cur, hv, _, hh, hc, _, hs, ht⟩
  · omega
  · injection hv with hA _ _
    subst hA
    refine ⟨g, 0, cur, (0, 0), rfl, ?_, hh, fun j u hj => ?_⟩
    · rcases Nat.lt_or_ge g w.heap.size with hlt | hge
      · exact hlt
      · rw [Array.getElem?_eq_none hge] at hh; cases hh
    · rw [← ht, List.getElem?_take] at hj
      split at hj
      · simpa using hj
      · cases hj
end

theorem own_below {w w' : World} {base : Nat} {e : TypeId} {size n : Nat} {v : Value} {xs : List Value} (h : w.ownsRow base e size v n xs) (hb : Below w.heap.size w w') : w'.ownsRow base e size v n xs := by
  refine ⟨h.1, ?_⟩
  rcases h.2 with h0 | ⟨g, cap, cur, hv, hbg, hg, h1⟩
  · exact .inl h0
  · refine .inr ⟨g, cap, cur, hv, hbg, (hb.block g ?_).trans hg, h1⟩
    rcases Nat.lt_or_ge g w.heap.size with hlt | hge
    · exact hlt
    · rw [Array.getElem?_eq_none hge] at hg; cases hg

theorem flat_get {α : Type} (n : Nat) : ∀ (css : List (List α)), (∀ cs ∈ css, cs.length = n) → ∀ (k : Nat) (hk : k < css.length) (j : Nat), j < n → css.flatten[k * n + j]? = css[k][j]?
  | [], _, k, hk, _, _ => absurd hk (by simp)
  | x :: r, h, 0, _, j, hj => by
    rw [List.flatten_cons, Nat.zero_mul, Nat.zero_add, List.getElem?_append_left (by rw [h x (List.mem_cons_self ..)]; exact hj)]
    rfl
  | x :: r, h, k + 1, hk, j, hj => by
    have hx := h x (List.mem_cons_self ..)
    have e : (k + 1) * n + j = x.length + (k * n + j) := by rw [hx, Nat.add_mul]; omega
    rw [List.flatten_cons, e, List.getElem?_append_right (by omega), Nat.add_sub_cancel_left]
    exact flat_get n r (fun cs hc => h cs (List.mem_cons_of_mem _ hc)) k (by simpa using hk) j hj
theorem flat_length {α : Type} (n : Nat) : ∀ (css : List (List α)), (∀ cs ∈ css, cs.length = n) → css.flatten.length = css.length * n
  | [], _ => by simp
  | x :: r, h => by
    rw [List.flatten_cons, List.length_append, flat_length n r (fun cs hc => h cs (List.mem_cons_of_mem _ hc)), h x (List.mem_cons_self ..), List.length_cons, Nat.add_mul]
    omega

/-- A list of structs of 'size' cells, as it is read; R tells what each struct's cells mean. -/
def ListAt {α : Type} (w : World) (B size : Nat) (R : List Value → α → Prop) (v : Value) (xs : List α) : Prop :=
  ∃ (A : Option Addr) (c : Nat) (css : List (List Value)), v = .slice A xs.length c ∧ css.length = xs.length ∧ (∀ cs ∈ css, cs.length = size) ∧ Reads w B size A xs.length css.flatten ∧ ∀ (i : Nat) (cs : List Value) (x : α), css[i]? = some cs → xs[i]? = some x → R cs x
/-- .. as the call owns it. -/
def ListOwn {α : Type} (w : World) (base : Nat) (e : TypeId) (size : Nat) (R : List Value → α → Prop) (v : Value) (xs : List α) : Prop :=
  ∃ css : List (List Value), w.ownsRow base e size v xs.length css.flatten ∧ css.length = xs.length ∧ (∀ cs ∈ css, cs.length = size) ∧ ∀ (i : Nat) (cs : List Value) (x : α), css[i]? = some cs → xs[i]? = some x → R cs x
/-- .. in a block whose type is known. -/
def ListT {α : Type} (w : World) (B : Nat) (e : TypeId) (size : Nat) (R : List Value → α → Prop) (v : Value) (xs : List α) : Prop :=
  ∃ (A : Option Addr) (c : Nat) (css : List (List Value)), v = .slice A xs.length c ∧ css.length = xs.length ∧ (∀ cs ∈ css, cs.length = size) ∧ TR w B e size A xs.length css.flatten ∧ ∀ (i : Nat) (cs : List Value) (x : α), css[i]? = some cs → xs[i]? = some x → R cs x

section
variable {α : Type} {w w' : World} {B base size : Nat} {e : TypeId} {R R' : List Value → α → Prop} {v : Value} {xs : List α}
theorem ListAt.imp (h : ListAt w B size R v xs) (hR : ∀ cs x, R cs x → R' cs x) : ListAt w B size R' v xs := by
  obtain ⟨A, c, css, h1, h2, h3, h4, h5⟩ := h
  exact ⟨A, c, css, h1, h2, h3, h4, fun i cs x a b => hR _ _ (h5 i cs x a b)⟩
theorem ListAt.below (h : ListAt w B size R v xs) (hb : Below B w w') : ListAt w' B size R v xs := by
  obtain ⟨A, c, css, h1, h2, h3, h4, h5⟩ := h
  exact ⟨A, c, css, h1, h2, h3, h4.below hb, h5⟩
theorem ListAt.more {B' : Nat} (h : ListAt w B size R v xs) (hB : B ≤ B') : ListAt w B' size R v xs := by
  obtain ⟨A, c, css, h1, h2, h3, h4, h5⟩ := h
  exact ⟨A, c, css, h1, h2, h3, h4.more hB, h5⟩
theorem ListT.imp (h : ListT w B e size R v xs) (hR : ∀ cs x, R cs x → R' cs x) : ListT w B e size R' v xs := by
  obtain ⟨A, c, css, h1, h2, h3, h4, h5⟩ := h
  exact ⟨A, c, css, h1, h2, h3, h4, fun i cs x a b => hR _ _ (h5 i cs x a b)⟩
theorem ListT.at_ (h : ListT w B e size R v xs) : ListAt w B size R v xs := by
  obtain ⟨A, c, css, h1, h2, h3, h4, h5⟩ := h
  exact ⟨A, c, css, h1, h2, h3, h4.reads, h5⟩
theorem ListT.same {T : List TypeId} (h : ListT w B e size R v xs) (hs : SameOn T B w w') (ht : e ∉ T) : ListT w' B e size R v xs := by
  obtain ⟨A, c, css, h1, h2, h3, h4, h5⟩ := h
  exact ⟨A, c, css, h1, h2, h3, h4.same hs ht, h5⟩
theorem ListT.more {B' : Nat} (h : ListT w B e size R v xs) (hB : B ≤ B') : ListT w B' e size R v xs := by
  obtain ⟨A, c, css, h1, h2, h3, h4, h5⟩ := h
  exact ⟨A, c, css, h1, h2, h3, h4.more hB, h5⟩
theorem ListOwn.imp (h : ListOwn w base e size R v xs) (hR : ∀ cs x, R cs x → R' cs x) : ListOwn w base e size R' v xs := by
  obtain ⟨css, h1, h2, h3, h4⟩ := h
  exact ⟨css, h1, h2, h3, fun i cs x a b => hR _ _ (h4 i cs x a b)⟩
theorem ListOwn.t (h : ListOwn w base e size R v xs) : ListT w w.heap.size e size R v xs := by
  obtain ⟨css, h1, h2, h3, h4⟩ := h
  obtain ⟨A, c, hv⟩ : ∃ A c, v = .slice A xs.length c := by
    rcases h1.2 with ⟨rfl, h0⟩ | ⟨g, cap, cur, rfl, _⟩
    · exact ⟨none, 0, by rw [h0]⟩
    · exact ⟨_, cap, rfl⟩
  subst hv
  exact ⟨A, c, css, rfl, h2, h3, TR.of_own h1, h4⟩
theorem ListOwn.below (h : ListOwn w base e size R v xs) (hb : Below w.heap.size w w') : ListOwn w' base e size R v xs := by
  obtain ⟨css, h1, h2, h3, h4⟩ := h
  exact ⟨css, own_below h1 hb, h2, h3, h4⟩
theorem ListOwn.nil {xs : List α} (h : xs = []) (w : World) : ListOwn w base e size R (.slice none 0 0) xs := by
  subst h
  exact ⟨[], World.ownsRow_nil _ _ _ _, rfl, (fun cs h => by cases h), (fun i cs x h => by simp at h)⟩
/-- One struct of a list that is read: where its cells lie. -/
theorem ListAt.get {A : Option Addr} {c : Nat} (h : ListAt w B size R (.slice A xs.length c) xs) (hs : 0 < size) (k : Nat) (hk : k < xs.length) :
    ∃ g o cs, A = some ⟨g, o, none⟩ ∧ g < B ∧ cs.length = size ∧ R cs xs[k] ∧ ∀ j u, cs[j]? = some u → w.cell? ⟨g, o + k * size + j, none⟩ = some u := by
  obtain ⟨A', c', css, hv, h2, h3, h4, h5⟩ := h
  injection hv with hA _ _
  subst hA
  have hkc : k < css.length := by omega
  obtain ⟨g, o, e1, e2, e3⟩ := h4.lies (Nat.mul_pos (by omega) hs)
  refine ⟨g, o, css[k], e1, e2, h3 _ (List.getElem_mem hkc), h5 k _ _ (List.getElem?_eq_getElem hkc) (List.getElem?_eq_getElem hk), fun j u hj => ?_⟩
  have hjl : j < size := by
    have := (List.getElem?_eq_some_iff.1 hj).1
    rw [h3 _ (List.getElem_mem hkc)] at this
    exact this
  have := e3 (k * size + j) u (by rw [flat_get size css h3 k hkc j hjl]; exact hj)
  rw [← Nat.add_assoc] at this
  exact this
theorem ListAt.form (h : ListAt w B size R v xs) : ∃ A c, v = .slice A xs.length c := by
  obtain ⟨A, c, css, h1, _⟩ := h
  exact ⟨A, c, h1⟩
/-- One struct more behind those that the call owns. -/
theorem ListOwn.snoc {w1 : World} {v' : Value} {cs : List Value} {x : α} {css : List (List Value)} (h1 : w1.ownsRow base e size v' (xs.length + 1) (css.flatten ++ cs)) (h2 : css.length = xs.length) (h3 : ∀ cs ∈ css, cs.length = size)
    (h4 : ∀ (i : Nat) (cs : List Value) (x : α), css[i]? = some cs → xs[i]? = some x → R cs x) (hl : cs.length = size) (hx : R cs x) : ListOwn w1 base e size R v' (xs ++ [x]) := by
  refine ⟨css ++ [cs], by simpa using h1, by simp [h2], fun c hc => ?_, fun i c y hc hy => ?_⟩
  · rcases List.mem_append.1 hc with h | h
    · exact h3 c h
    · simp at h
      rw [h]
      exact hl
  · by_cases hi : i < css.length
    · rw [List.getElem?_append_left hi] at hc
      rw [List.getElem?_append_left (by omega)] at hy
      exact h4 i c y hc hy
    · rw [List.getElem?_append_right (by omega)] at hc
      rw [List.getElem?_append_right (by omega)] at hy
      have e1 : i - css.length = 0 := by
        have := (List.getElem?_eq_some_iff.1 hc).1
        simp at this
        omega
      have e2 : i - xs.length = 0 := by omega
      rw [e1] at hc
      rw [e2] at hy
      simp at hc hy
      subst hc
      subst hy
      exact hx
end

theorem reads_row (w : World) (cs : Array Value) (t : TypeId) (m n size : Nat) (hn : cs.size = n * size) (hm : w.heap.size = m) : Reads (w.alloc (.cells cs t)) (m + 1) size (some ⟨m, 0, none⟩) n cs.toList := by
  subst hm
  refine ⟨by simp [hn], fun _ => ⟨_, rfl, by simp, fun j u hj => ?_⟩⟩
  have hadd : (⟨w.heap.size, 0, none⟩ : Addr).add j = ⟨w.heap.size, j, none⟩ := by unfold Addr.add; split <;> simp_all
  rw [hadd, cell_of_row _ w.heap.size j _ _ (0, 0) (heap_alloc_new w _)]
  simpa using hj

/-- The cells of a file whose lists lie in blocks of known types (D: the type of a directive). -/
def StrsT (w : World) (B : Nat) (v : Value) (ss : List ByteArray) : Prop := ∃ A c, v = .slice A ss.length c ∧ TR w B 9 1 A ss.length (ss.map Value.string)
def DirsT (w : World) (B : Nat) (D : TypeId) (v : Value) (ds : List DirD) : Prop := ∃ A c, v = .slice A ds.length c ∧ TR w B D 5 A ds.length (ds.flatMap dirCells)
def FileT (w : World) (B : Nat) (D : TypeId) (cs : List Value) (f : FileD) : Prop :=
  ∃ vc vi ve vd, cs = fileCells f vc vi ve vd ∧ StrsT w B vc f.cons ∧ DirsT w B D vi f.imps ∧ DirsT w B D ve f.embs ∧ DirsT w B D vd f.dirs
theorem StrsT.same {w w' : World} {B : Nat} {v : Value} {ss : List ByteArray} {T : List TypeId} (h : StrsT w B v ss) (hs : SameOn T B w w') (ht : 9 ∉ T) : StrsT w' B v ss := by
  obtain ⟨A, c, h1, h2⟩ := h
  exact ⟨A, c, h1, h2.same hs ht⟩
theorem DirsT.same {w w' : World} {B : Nat} {D : TypeId} {v : Value} {ss : List DirD} {T : List TypeId} (h : DirsT w B D v ss) (hs : SameOn T B w w') (ht : D ∉ T) : DirsT w' B D v ss := by
  obtain ⟨A, c, h1, h2⟩ := h
  exact ⟨A, c, h1, h2.same hs ht⟩
theorem FileT.same {w w' : World} {B : Nat} {D : TypeId} {cs : List Value} {f : FileD} {T : List TypeId} (h : FileT w B D cs f) (hs : SameOn T B w w') (h1 : 9 ∉ T) (h2 : D ∉ T) : FileT w' B D cs f := by
  obtain ⟨vc, vi, ve, vd, e, a, b, c, d⟩ := h
  exact ⟨vc, vi, ve, vd, e, a.same hs h1, b.same hs h2, c.same hs h2, d.same hs h2⟩
theorem FileT.more {w : World} {B B' : Nat} {D : TypeId} {cs : List Value} {f : FileD} (h : FileT w B D cs f) (hB : B ≤ B') : FileT w B' D cs f := by
  obtain ⟨vc, vi, ve, vd, e, ⟨A1, c1, a1, a2⟩, ⟨A2, c2, b1, b2⟩, ⟨A3, c3, d1, d2⟩, ⟨A4, c4, e1, e2⟩⟩ := h
  exact ⟨vc, vi, ve, vd, e, ⟨A1, c1, a1, a2.more hB⟩, ⟨A2, c2, b1, b2.more hB⟩, ⟨A3, c3, d1, d2.more hB⟩, ⟨A4, c4, e1, e2.more hB⟩⟩
theorem FileT.r {w : World} {B : Nat} {D : TypeId} {cs : List Value} {f : FileD} (h : FileT w B D cs f) : FileR w B cs f := by
  obtain ⟨vc, vi, ve, vd, e, ⟨A1, c1, a1, a2⟩, ⟨A2, c2, b1, b2⟩, ⟨A3, c3, d1, d2⟩, ⟨A4, c4, e1, e2⟩⟩ := h
  exact ⟨vc, vi, ve, vd, e, ⟨A1, c1, a1, a2.reads⟩, ⟨A2, c2, b1, b2.reads⟩, ⟨A3, c3, d1, d2.reads⟩, ⟨A4, c4, e1, e2.reads⟩⟩
theorem FileR.len {w : World} {B : Nat} {cs : List Value} {f : FileD} (h : FileR w B cs f) : cs.length = 13 := by
  obtain ⟨vc, vi, ve, vd, e, _⟩ := h
  rw [e]
  rfl
theorem FileR.one {w : World} {B : Nat} {cs : List Value} {f : FileD} (h : FileR w B cs f) : ∀ u ∈ cs, u.oneCell' = true := by
  obtain ⟨vc, vi, ve, vd, e, ⟨A1, c1, rfl, _⟩, ⟨A2, c2, rfl, _⟩, ⟨A3, c3, rfl, _⟩, ⟨A4, c4, rfl, _⟩⟩ := h
  subst e
  intro u hu
  simp only [fileCells, List.mem_cons, List.not_mem_nil, or_false] at hu
  rcases hu with rfl | rfl | rfl | rfl | rfl | rfl | rfl | rfl | rfl | rfl | rfl | rfl | rfl <;> rfl

/-- Packages as data that is read: the cells of one, a list of them. -/
def PkgR (w : World) (B : Nat) (cs : List Value) (p : PkgD) : Prop := ∃ vf, cs = [.string p.err, .string p.dir, vf] ∧ ListAt w B 13 (FileR w B) vf p.files
def PkgsAt (w : World) (B : Nat) (v : Value) (ps : List PkgD) : Prop := ListAt w B 3 (PkgR w B) v ps
theorem ListAt.files_below {w w' : World} {B : Nat} {v : Value} {fs : List FileD} (h : ListAt w B 13 (FileR w B) v fs) (hb : Below B w w') : ListAt w' B 13 (FileR w' B) v fs := (h.below hb).imp fun _ _ h => h.below hb
theorem PkgR.below {w w' : World} {B : Nat} {cs : List Value} {p : PkgD} (h : PkgR w B cs p) (hb : Below B w w') : PkgR w' B cs p := by
  obtain ⟨vf, h1, h2⟩ := h
  exact ⟨vf, h1, h2.files_below hb⟩
theorem PkgsAt.below {w w' : World} {B : Nat} {v : Value} {ps : List PkgD} (h : PkgsAt w B v ps) (hb : Below B w w') : PkgsAt w' B v ps := (ListAt.below h hb).imp fun _ _ h => h.below hb
/-- .. in blocks of known types (F: a file's type, D: a directive's). -/
def PkgT (w : World) (B : Nat) (F D : TypeId) (cs : List Value) (p : PkgD) : Prop := ∃ vf, cs = [.string p.err, .string p.dir, vf] ∧ ListT w B F 13 (FileT w B D) vf p.files
theorem PkgT.same {w w' : World} {B : Nat} {F D : TypeId} {cs : List Value} {p : PkgD} {T : List TypeId} (h : PkgT w B F D cs p) (hs : SameOn T B w w') (h1 : 9 ∉ T) (h2 : D ∉ T) (h3 : F ∉ T) : PkgT w' B F D cs p := by
  obtain ⟨vf, e, h⟩ := h
  exact ⟨vf, e, (h.same hs h3).imp fun _ _ h => h.same hs h1 h2⟩
theorem PkgT.more {w : World} {B B' : Nat} {F D : TypeId} {cs : List Value} {p : PkgD} (h : PkgT w B F D cs p) (hB : B ≤ B') : PkgT w B' F D cs p := by
  obtain ⟨vf, e, h⟩ := h
  exact ⟨vf, e, (h.more hB).imp fun _ _ h => h.more hB⟩
theorem PkgT.r {w : World} {B : Nat} {F D : TypeId} {cs : List Value} {p : PkgD} (h : PkgT w B F D cs p) : PkgR w B cs p := by
  obtain ⟨vf, e, h⟩ := h
  exact ⟨vf, e, h.at_.imp fun _ _ h => h.r⟩
end
section
open Go.RowKit
attribute [local go_sem ↓] Go.wp_at_zero Go.wp_at_succ

theorem text_info : (Tryz.prog.info? 9).map (fun i => (i.zero, i.size, i.bytes)) = some (some (.string ByteArray.empty), 1, 16) := by kernel_rfl

theorem texts_one (ss : List ByteArray) : ∀ u ∈ ss.map Value.string, u.oneCell' = true := by
  intro u hu
  obtain ⟨s, _, rfl⟩ := List.mem_map.1 hu
  rfl

theorem keepCells {b : Nat} {W W' : World} {cs : Array Value} (h1 : W'.heap[b]? = W.heap[b]?) (h2 : ∀ j, W.cell? ⟨b, j, none⟩ = cs[j]?) : ∀ j, W'.cell? ⟨b, j, none⟩ = cs[j]? := fun j => (World.cell?_of_block (w := W) h1).trans (h2 j)

theorem keepSet {b : Nat} {p : Addr} {u : Value} {W : World} {cs : Array Value} (h1 : p.block ≠ b) (h2 : ∀ j, W.cell? ⟨b, j, none⟩ = cs[j]?) : ∀ j, (W.setCell p u).cell? ⟨b, j, none⟩ = cs[j]? := fun j => (World.cell?_setCell_other W p _ u (fun e => h1 (by rw [e]))).trans (h2 j)

theorem own_void (w : World) (base n : Nat) (t : TypeId) (hn : w.heap.size = n) (hb : base ≤ n) : (w.alloc (.cells #[] t)).ownsRow base t 1 (.slice (some ⟨n, 0, none⟩) 0 0) 0 [] := by
  subst hn
  exact World.ownsRow_made w #[] 0 hb (by simp [maxLen]) rfl

/-- A result that lies in memory, read whole. -/
theorem results_cell {P : Program} {fn : Func} {tmps : Array Value} {W : World} (t : Tmp) (ty : TypeId) (hr : fn.results = #[.cell t ty]) (g : Nat) (cs : List Value) (hp : tmps.getD t undef = .pointer (some ⟨g, 0, none⟩)) (d : TypeDesc) (hu : P.underlying ty = some d) (hd : d.isRow = true)
    (hi : (P.info? ty).map (·.size) = some cs.length) (hb : W.rangeAt g 0 cs) : (results fn tmps).run P W = .ok (.agg cs.toArray) W := by
  have h := run_loadVar_mid W g 0 ty cs d hb hu hd hi
  unfold results
  rw [hr]
  have hp' : tmps[t]?.getD undef = .pointer (some ⟨g, 0, none⟩) := by simpa using hp
  simp [hp', asAddr, h]
theorem Blk.range {w : World} {g : Nat} {t : TypeId} {l : List Value} (h : Blk w g t l.toArray) : w.rangeAt g 0 l := fun j v hj => by
  rw [Nat.zero_add, h.cell j]
  simpa using hj

theorem grown_set {w w' : World} {g : Nat} (h : w.grownBy w' (some g)) (j : Nat) (u : Value) : w.grownBy (w'.setCell ⟨g, j, none⟩ u) (some g) := h.trans (grownBy_setCell w' ⟨g, j, none⟩ u)

set_option maxHeartbeats 1000000 in
theorem gf_end (base g : Nat) (f : FileD) (zs : Array Value) (hz : zs.size = 13) (w wA wI wE wD : World) (AA AI AE AD : Option Addr) (cA cI cE cD : Nat) (hbk : Blk wD g 56 zs) (hbkA : Blk wA g 56 zs) (hbg : base ≤ g)
    (hownA : wA.ownsRow base 9 1 (.slice AA f.cons.length cA) f.cons.length (f.cons.map Value.string))
    (hownI : wI.ownsRow wA.heap.size 90 5 (.slice AI f.imps.length cI) f.imps.length (f.imps.flatMap dirCells)) (hbI : Below wA.heap.size wA wI)
    (hownE : wE.ownsRow wI.heap.size 90 5 (.slice AE f.embs.length cE) f.embs.length (f.embs.flatMap dirCells)) (hbE : Below wI.heap.size wI wE)
    (hownD : wD.ownsRow wE.heap.size 90 5 (.slice AD f.dirs.length cD) f.dirs.length (f.dirs.flatMap dirCells)) (hbD : Below wE.heap.size wE wD) (hbelD : Below base w wD) :
    FileT (((((((((((((wD.setCell ⟨g, 0, none⟩ (.string f.err)).setCell ⟨g, 1, none⟩ (.string f.perr)).setCell ⟨g, 2, none⟩ (.string f.name)).setCell ⟨g, 3, none⟩ (.string f.syn)).setCell ⟨g, 4, none⟩ (.string f.pkg)).setCell ⟨g, 5, none⟩ (.bool f.ign)).setCell ⟨g, 6, none⟩ (.bool f.bin)).setCell ⟨g, 7, none⟩ (.string f.cgo)).setCell ⟨g, 8, none⟩ (.string f.con)).setCell ⟨g, 9, none⟩ (.slice AA f.cons.length cA)).setCell ⟨g, 10, none⟩ (.slice AI f.imps.length cI)).setCell ⟨g, 11, none⟩ (.slice AE f.embs.length cE)).setCell ⟨g, 12, none⟩ (.slice AD f.dirs.length cD)) (((((((((((((wD.setCell ⟨g, 0, none⟩ (.string f.err)).setCell ⟨g, 1, none⟩ (.string f.perr)).setCell ⟨g, 2, none⟩ (.string f.name)).setCell ⟨g, 3, none⟩ (.string f.syn)).setCell ⟨g, 4, none⟩ (.string f.pkg)).setCell ⟨g, 5, none⟩ (.bool f.ign)).setCell ⟨g, 6, none⟩ (.bool f.bin)).setCell ⟨g, 7, none⟩ (.string f.cgo)).setCell ⟨g, 8, none⟩ (.string f.con)).setCell ⟨g, 9, none⟩ (.slice AA f.cons.length cA)).setCell ⟨g, 10, none⟩ (.slice AI f.imps.length cI)).setCell ⟨g, 11, none⟩ (.slice AE f.embs.length cE)).setCell ⟨g, 12, none⟩ (.slice AD f.dirs.length cD)).heap.size 90 (fileCells f (.slice AA f.cons.length cA) (.slice AI f.imps.length cI) (.slice AE f.embs.length cE) (.slice AD f.dirs.length cD)) f ∧ Below base w (((((((((((((wD.setCell ⟨g, 0, none⟩ (.string f.err)).setCell ⟨g, 1, none⟩ (.string f.perr)).setCell ⟨g, 2, none⟩ (.string f.name)).setCell ⟨g, 3, none⟩ (.string f.syn)).setCell ⟨g, 4, none⟩ (.string f.pkg)).setCell ⟨g, 5, none⟩ (.bool f.ign)).setCell ⟨g, 6, none⟩ (.bool f.bin)).setCell ⟨g, 7, none⟩ (.string f.cgo)).setCell ⟨g, 8, none⟩ (.string f.con)).setCell ⟨g, 9, none⟩ (.slice AA f.cons.length cA)).setCell ⟨g, 10, none⟩ (.slice AI f.imps.length cI)).setCell ⟨g, 11, none⟩ (.slice AE f.embs.length cE)).setCell ⟨g, 12, none⟩ (.slice AD f.dirs.length cD)) ∧
      Blk (((((((((((((wD.setCell ⟨g, 0, none⟩ (.string f.err)).setCell ⟨g, 1, none⟩ (.string f.perr)).setCell ⟨g, 2, none⟩ (.string f.name)).setCell ⟨g, 3, none⟩ (.string f.syn)).setCell ⟨g, 4, none⟩ (.string f.pkg)).setCell ⟨g, 5, none⟩ (.bool f.ign)).setCell ⟨g, 6, none⟩ (.bool f.bin)).setCell ⟨g, 7, none⟩ (.string f.cgo)).setCell ⟨g, 8, none⟩ (.string f.con)).setCell ⟨g, 9, none⟩ (.slice AA f.cons.length cA)).setCell ⟨g, 10, none⟩ (.slice AI f.imps.length cI)).setCell ⟨g, 11, none⟩ (.slice AE f.embs.length cE)).setCell ⟨g, 12, none⟩ (.slice AD f.dirs.length cD)) g 56 (fileCells f (.slice AA f.cons.length cA) (.slice AI f.imps.length cI) (.slice AE f.embs.length cE) (.slice AD f.dirs.length cD)).toArray := by
  have hG : wD.grownBy (((((((((((((wD.setCell ⟨g, 0, none⟩ (.string f.err)).setCell ⟨g, 1, none⟩ (.string f.perr)).setCell ⟨g, 2, none⟩ (.string f.name)).setCell ⟨g, 3, none⟩ (.string f.syn)).setCell ⟨g, 4, none⟩ (.string f.pkg)).setCell ⟨g, 5, none⟩ (.bool f.ign)).setCell ⟨g, 6, none⟩ (.bool f.bin)).setCell ⟨g, 7, none⟩ (.string f.cgo)).setCell ⟨g, 8, none⟩ (.string f.con)).setCell ⟨g, 9, none⟩ (.slice AA f.cons.length cA)).setCell ⟨g, 10, none⟩ (.slice AI f.imps.length cI)).setCell ⟨g, 11, none⟩ (.slice AE f.embs.length cE)).setCell ⟨g, 12, none⟩ (.slice AD f.dirs.length cD)) (some g) := (grown_set (grown_set (grown_set (grown_set (grown_set (grown_set (grown_set (grown_set (grown_set (grown_set (grown_set (grown_set (grown_set (World.grownBy.refl wD _) _ _) _ _) _ _) _ _) _ _) _ _) _ _) _ _) _ _) _ _) _ _) _ _) _ _)
  have hgl := hbk.lt
  have hgA := hbkA.lt
  have hszI := hbI.size
  have hszE := hbE.size
  have hszD := hbD.size
  have hzs : ∃ a b c d e f g h i j k l m, zs = #[a, b, c, d, e, f, g, h, i, j, k, l, m] := by
    obtain ⟨l⟩ := zs
    match l, hz with
    | [a, b, c, d, e, f, g, h, i, j, k, l, m], _ => exact ⟨a, b, c, d, e, f, g, h, i, j, k, l, m, rfl⟩
  obtain ⟨_, _, _, _, _, _, _, _, _, _, _, _, _, rfl⟩ := hzs
  have hB := (((((((((((((hbk.set_ 0 (.string f.err)).set_ 1 (.string f.perr)).set_ 2 (.string f.name)).set_ 3 (.string f.syn)).set_ 4 (.string f.pkg)).set_ 5 (.bool f.ign)).set_ 6 (.bool f.bin)).set_ 7 (.string f.cgo)).set_ 8 (.string f.con)).set_ 9 (.slice AA f.cons.length cA)).set_ 10 (.slice AI f.imps.length cI)).set_ 11 (.slice AE f.embs.length cE)).set_ 12 (.slice AD f.dirs.length cD))
  simp only [List.setIfInBounds_toArray, List.set_cons_zero, List.set_cons_succ] at hB
  generalize (((((((((((((wD.setCell ⟨g, 0, none⟩ (.string f.err)).setCell ⟨g, 1, none⟩ (.string f.perr)).setCell ⟨g, 2, none⟩ (.string f.name)).setCell ⟨g, 3, none⟩ (.string f.syn)).setCell ⟨g, 4, none⟩ (.string f.pkg)).setCell ⟨g, 5, none⟩ (.bool f.ign)).setCell ⟨g, 6, none⟩ (.bool f.bin)).setCell ⟨g, 7, none⟩ (.string f.cgo)).setCell ⟨g, 8, none⟩ (.string f.con)).setCell ⟨g, 9, none⟩ (.slice AA f.cons.length cA)).setCell ⟨g, 10, none⟩ (.slice AI f.imps.length cI)).setCell ⟨g, 11, none⟩ (.slice AE f.embs.length cE)).setCell ⟨g, 12, none⟩ (.slice AD f.dirs.length cD)) = WF at hG hB ⊢
  have hneA : Value.ownBlock (.slice AA f.cons.length cA) ≠ some g := own_blk_ne hownA hbkA (by decide)
  have hneI : Value.ownBlock (.slice AI f.imps.length cI) ≠ some g := fun e => by have := (hownI.lt _ e).1; omega
  have hneE : Value.ownBlock (.slice AE f.embs.length cE) ≠ some g := fun e => by have := (hownE.lt _ e).1; omega
  have hneD : Value.ownBlock (.slice AD f.dirs.length cD) ≠ some g := fun e => by have := (hownD.lt _ e).1; omega
  have bID := (hbI.trans (hbE.mono hszI)).trans (hbD.mono (Nat.le_trans hszI hszE))
  have bED := hbE.trans (hbD.mono hszE)
  have hoA := TR.of_own ((own_below hownA bID).kept hG (.inr hneA))
  have hoI := TR.of_own ((own_below hownI bED).kept hG (.inr hneI))
  have hoE := TR.of_own ((own_below hownE hbD).kept hG (.inr hneE))
  have hoD := TR.of_own (hownD.kept hG (.inr hneD))
  exact ⟨⟨_, _, _, _, rfl, ⟨AA, cA, rfl, hoA⟩, ⟨AI, cI, rfl, hoI⟩, ⟨AE, cE, rfl, hoE⟩, ⟨AD, cD, rfl, hoD⟩⟩, hbelD.grown hG (by omega) (fun k hk => by injection hk with hk; omega), hB⟩

set_option maxHeartbeats 8000000 in
set_option maxRecDepth 100000 in
theorem givenFile_any (B : Nat) (f : FileD) (cs : List Value) (w : World) (hB : B ≤ w.heap.size) (hl0 : f.cons.length ≤ 1000) (hl1 : f.imps.length ≤ 1000) (hl2 : f.embs.length ≤ 1000) (hl3 : f.dirs.length ≤ 1000) (hr : FileR w B cs f) :
    Calls Tryz.prog 20 #[.agg cs.toArray] w fun e w' => ∃ cs', e = .returned (.agg cs'.toArray) ∧ FileT w' w'.heap.size 90 cs' f ∧ Below w.heap.size w w' := by
  obtain ⟨i0, hi0, hz0, hz1, hz2⟩ := info_parts' text_info
  obtain ⟨vc, vi, ve, vd, rfl, ⟨Ac, cc, rfl, hvc⟩, ⟨Ai, ci, rfl, hvi⟩, ⟨Ae, ce, rfl, hve⟩, ⟨Ad, cd, rfl, hvd⟩⟩ := hr
  have GI := Lib.hid (fun (W : World) (hW : Below w.heap.size w W) => given_any B _ f.imps W (Nat.le_trans hB hW.size) hl1 ⟨Ai, ci, rfl, hvi.below (hW.mono hB)⟩)
  have GE' := Lib.hid (fun (W : World) (hW : Below w.heap.size w W) => given_any B _ f.embs W (Nat.le_trans hB hW.size) hl2 ⟨Ae, ce, rfl, hve.below (hW.mono hB)⟩)
  have GD := Lib.hid (fun (W : World) (hW : Below w.heap.size w W) => given_any B _ f.dirs W (Nat.le_trans hB hW.size) hl3 ⟨Ad, cd, rfl, hvd.below (hW.mono hB)⟩)
  have HVC := Lib.hid (fun (W : World) (hW : Below w.heap.size w W) => hvc.below (hW.mono hB))
  clear hvc hvi hve hvd
  obtain ⟨W0, HW0⟩ : ∃ W0, W0 = (w.alloc (.cells (fileCells f (.slice Ac f.cons.length cc) (.slice Ai f.imps.length ci) (.slice Ae f.embs.length ce) (.slice Ad f.dirs.length cd)).toArray 43)).alloc (.cells #[.string { data := #[] }, .string { data := #[] }, .string { data := #[] }, .string { data := #[] }, .string { data := #[] }, .bool false, .bool false, .string { data := #[] }, .string { data := #[] }, .slice none 0 0, .slice none 0 0, .slice none 0 0, .slice none 0 0] 56) := ⟨_, rfl⟩
  have hblk1 := (Blk.new w 43 (fileCells f (.slice Ac f.cons.length cc) (.slice Ai f.imps.length ci) (.slice Ae f.embs.length ce) (.slice Ad f.dirs.length cd)).toArray).alloc (.cells #[.string { data := #[] }, .string { data := #[] }, .string { data := #[] }, .string { data := #[] }, .string { data := #[] }, .bool false, .bool false, .string { data := #[] }, .string { data := #[] }, .slice none 0 0, .slice none 0 0, .slice none 0 0, .slice none 0 0] 56)
  have hblk2 := Blk.new (w.alloc (.cells (fileCells f (.slice Ac f.cons.length cc) (.slice Ai f.imps.length ci) (.slice Ae f.embs.length ce) (.slice Ad f.dirs.length cd)).toArray 43)) 56 #[.string { data := #[] }, .string { data := #[] }, .string { data := #[] }, .string { data := #[] }, .string { data := #[] }, .bool false, .bool false, .string { data := #[] }, .string { data := #[] }, .slice none 0 0, .slice none 0 0, .slice none 0 0, .slice none 0 0]
  rw [World.size_alloc] at hblk2
  rw [← HW0] at hblk1 hblk2
  have hsz0 : W0.heap.size = w.heap.size + 2 := by rw [HW0]; simp
  have hbel0 : Below w.heap.size w W0 := by rw [HW0]; exact ((Below.refl _ _).alloc (Nat.le_refl _) _).alloc (by simp) _
  have HS0 := Lib.hid (show ∀ j, W0.cell? ⟨w.heap.size, j, none⟩ = (#[.string f.err, .string f.perr, .string f.name, .string f.syn, .string f.pkg, .bool f.ign, .bool f.bin, .string f.cgo, .string f.con, .slice Ac f.cons.length cc, .slice Ai f.imps.length ci, .slice Ae f.embs.length ce, .slice Ad f.dirs.length cd] : Array Value)[j]? from hblk1.cell)
  have HS1 : Hid (∀ j, W0.drew.cell? ⟨w.heap.size, j, none⟩ = (#[.string f.err, .string f.perr, .string f.name, .string f.syn, .string f.pkg, .bool f.ign, .bool f.bin, .string f.cgo, .string f.con, .slice Ac f.cons.length cc, .slice Ai f.imps.length ci, .slice Ae f.embs.length ce, .slice Ad f.dirs.length cd] : Array Value)[j]?) := Lib.hid HS0.out
  have HW := Lib.hid HW0
  have HB2 := Lib.hid hblk2
  clear HW0 hblk1 hblk2
  go_enter Tryz.func20, Tryz.ntmps20
  go_wp2_with fail
  rw [show (w.alloc (.cells (fileCells f (.slice Ac f.cons.length cc) (.slice Ai f.imps.length ci) (.slice Ae f.embs.length ce) (.slice Ad f.dirs.length cd)).toArray 43)).alloc (.cells #[.string { data := #[] }, .string { data := #[] }, .string { data := #[] }, .string { data := #[] }, .string { data := #[] }, .bool false, .bool false, .string { data := #[] }, .string { data := #[] }, .slice none 0 0, .slice none 0 0, .slice none 0 0, .slice none 0 0] 56) = W0 from HW.out.symm]
  go_region_held3 (fun W => ∀ j, W.cell? ⟨w.heap.size, j, none⟩ = (#[.string f.err, .string f.perr, .string f.name, .string f.syn, .string f.pkg, .bool f.ign, .bool f.bin, .string f.cgo, .string f.con, .slice Ac f.cons.length cc, .slice Ai f.imps.length ci, .slice Ae f.embs.length ce, .slice Ad f.dirs.length cd] : Array Value)[j]?) (first | with_reducible exact HS1.out | (with_reducible refine keepSet (by simp) ?_; (repeat (with_reducible refine keepSet (by simp) ?_)); with_reducible assumption) | with_reducible exact keepCells (hbD.block _ (by omega)) (by assumption) | with_reducible exact keepCells (hbE.block _ (by omega)) (by assumption) | with_reducible exact keepCells (hbI.block _ (by omega)) (by assumption) | with_reducible exact keepCells (hgA.block _ (by simp; omega) (by simp [Value.ownBlock])) (by assumption) | with_reducible exact keepCells (((Below.refl W0.heap.size W0).drew.alloc (Nat.le_refl _) (.cells #[] 9)).block _ (by omega)) HS0.out)
    (first
      | (refine step_append_any _ (by rfl) (.tmp 21) (.tmp 23) _ (by rfl) w.heap.size 9 i0 _ 1 16 Tryz.underlying40 hi0 hz0 hz1 hz2 (by rfl) (by decide) (.slice (some ⟨w.heap.size + 2, 0, none⟩) 0 0) 0 [] (by rfl) (own_void _ _ _ _ hsz0 (by omega)) _ Ac f.cons.length cc (f.cons.map Value.string) (by rfl) (HVC.out _ (hbel0.drew.alloc (by simp; omega) _)) (texts_one _) (by unfold maxLen; omega) (by omega) (by simp; omega) ?_; intro vA wA hownA hgA hatA; simp only [Nat.zero_add, List.nil_append] at hownA; have hbelA := (hbel0.drew.alloc (by simp; omega) (.cells #[] 9)).grown hgA (by simp; omega) (by intro k hk; simp [Value.ownBlock] at hk; omega); have hszA : w.heap.size + 3 ≤ wA.heap.size := (by have := hgA.size; simp at this; omega); have hbkA := (HB2.out.drew.alloc (.cells #[] 9)).grown hgA (by simp [Value.ownBlock]); obtain ⟨AA, cA, rfl⟩ := own_form' hownA)
      | (go_at_call 31; refine (GD.out _ hbelE).mono ?_; rintro e wD ⟨AD, cD, rfl, hownD, hbD⟩; have hbelD := hbelE.trans (hbD.mono hbelE.size); have hszD := hbD.size; have hbkD := hbkE.below hbD hbkE.lt; have q0 := hbkD.cell 0; have r0 := hbkD.frozen 0; have q1 := hbkD.cell 1; have r1 := hbkD.frozen 1; have q2 := hbkD.cell 2; have r2 := hbkD.frozen 2; have q3 := hbkD.cell 3; have r3 := hbkD.frozen 3; have q4 := hbkD.cell 4; have r4 := hbkD.frozen 4; have q5 := hbkD.cell 5; have r5 := hbkD.frozen 5; have q6 := hbkD.cell 6; have r6 := hbkD.frozen 6; have q7 := hbkD.cell 7; have r7 := hbkD.frozen 7; have q8 := hbkD.cell 8; have r8 := hbkD.frozen 8; have q9 := hbkD.cell 9; have r9 := hbkD.frozen 9; have q10 := hbkD.cell 10; have r10 := hbkD.frozen 10; have q11 := hbkD.cell 11; have r11 := hbkD.frozen 11; have q12 := hbkD.cell 12; have r12 := hbkD.frozen 12)
      | (go_at_call 31; refine (GE'.out _ hbelI).mono ?_; rintro e wE ⟨AE, cE, rfl, hownE, hbE⟩; have hbelE := hbelI.trans (hbE.mono hbelI.size); have hszE := hbE.size; have hbkE := hbkI.below hbE hbkI.lt)
      | (go_at_call 31; refine (GI.out _ hbelA).mono ?_; rintro e wI ⟨AI, cI, rfl, hownI, hbI⟩; have hbelI := hbelA.trans (hbI.mono hbelA.size); have hszI := hbI.size; have hbkI := hbkA.below hbI hbkA.lt))
  have E := gf_end w.heap.size (w.heap.size + 1) f _ rfl w wA wI wE wD AA AI AE AD cA cI cE cD hbkD hbkA (by omega) hownA hownI hbI hownE hbE hownD hbD hbelD
  have HE := Lib.hid E
  clear E hownA hownI hownE hownD hbI hbE hbD hbkA hbkI hbkE hbkD hbelA hbelI hbelE hbelD
  go_wp2_with fail
  refine bodyPost_ret (results_cell 2 56 rfl (w.heap.size + 1) _ rfl _ Tryz.underlying56 rfl (by kernel_rfl) HE.out.2.2.range) rfl ?_
  exact ⟨_, rfl, HE.out.1, HE.out.2.1⟩
end
section
open Go

section
variable {P : Program} {ops : Array Oper} {Q : Exit → Act → World → Prop} {md : Region.Mode} {S : World → Prop} {s : Nat}

/-- Whatever order is picked, and S holds behind each operation but number s. -/
def wpAnyM (P : Program) (md : Region.Mode) (ops : Array Oper) (Q : Exit → Act → World → Prop) (S : World → Prop) (s : Nat) : Nat → Array Bool → Act → World → Prop
  | 0, listed, a, w => Region.ready md ops listed = [] ∧ Q .normal a w
  | fuel + 1, listed, a, w =>
    (Region.ready md ops listed = [] → Q .normal a w) ∧
    ∀ i ∈ Region.ready md ops listed, wpOp P ops Q i (fun a' w' => (i = s ∨ S w') ∧ wpAnyM P md ops Q S s fuel (listed.setIfInBounds i true) a' w') a w

theorem wpAny_of_m : ∀ (fuel : Nat) (listed : Array Bool) (a : Act) (w : World), wpAnyM P md ops Q S s fuel listed a w → wpAny P md ops Q fuel listed a w
  | 0, _, _, _, h => h
  | fuel + 1, _, _, _, h => ⟨h.1, fun i hi => wpOp_mono (fun a' w' h' => wpAny_of_m fuel _ a' w' h'.2) (h.2 i hi)⟩

/-- Does operation s wait for operation i? -/
def waitsB (md : Region.Mode) (ops : Array Oper) (s i : Nat) : Bool := match ops[s]? with
  | some o => o.after.any fun e => Region.binds md e && e.on == i
  | none => true

theorem waits_listed {listed : Array Bool} {i : Nat} (hw : waitsB md ops s i = true) (hr : s ∈ Region.ready md ops listed) : listed.getD i false = true := by
  obtain ⟨_, o, ho, hall⟩ := mem_ready.1 hr
  unfold waitsB at hw
  rw [ho] at hw
  simp only [Array.any_eq_true, Bool.and_eq_true, beq_iff_eq] at hw
  obtain ⟨k, hk, hb, he⟩ := hw
  have := hall o.after[k] (Array.getElem_mem hk) hb
  rw [he] at this
  exact this

theorem wpAnyM_first {i : Nat} {oi : Oper} {v : Value} (hi : ops[i]? = some oi) (hsel : ∀ (j : Nat) (o : Oper) cs b, ops[j]? = some o → o.op ≠ .select cs b)
    (hQ : ∀ c a w, Q (.panic c) (a.put oi.dst v) w → Q (.panic c) a w) (hws : waitsB md ops s i = true) (his : i ≠ s) :
    ∀ (fuel : Nat) (listed : Array Bool) (a : Act) (w : World),
      (∀ j oj, ops[j]? = some oj → j ≠ i → listed.getD j true = false → (∀ e ∈ oj.after, Region.binds md e = true → e.on ≠ i) → oi.apart ops oj = true) →
      i ∈ Region.ready md ops listed → YieldsIf P ops S oi v a → S w →
      wpAnyM P md ops Q S s fuel (listed.setIfInBounds i true) (a.put oi.dst v) w → wpAnyM P md ops Q S s (fuel + 1) listed a w := by
  intro fuel
  induction fuel with
  | zero =>
    intro listed a w _ hr hy hS H
    refine ⟨fun h => (by rw [h] at hr; cases hr), fun j hj => ?_⟩
    by_cases hji : j = i
    · subst hji; exact hy.wpOp hi hS ⟨.inr hS, H⟩
    · have := ready_mono hj hji
      rw [H.1] at this
      cases this
  | succ fuel ih =>
    intro listed a w hfree hr hy hS H
    refine ⟨fun h => (by rw [h] at hr; cases hr), fun j hj => ?_⟩
    by_cases hji : j = i
    · subst hji; exact hy.wpOp hi hS ⟨.inr hS, H⟩
    · have h1 := H.2 j (ready_mono hj hji)
      obtain ⟨hjun, oj, hoj, hall⟩ := mem_ready.1 hj
      have h0 := (mem_ready.1 hr).1
      have hiun : listed.getD i false = false := by
        rcases Nat.lt_or_ge i listed.size with h' | h'
        · simp [h'] at h0 ⊢; exact h0
        · simp [Array.getElem?_eq_none h']
      have hjs : j ≠ s := fun e => by
        subst e
        rw [waits_listed hws hj] at hiun
        cases hiun
      have hnot : ∀ e ∈ oj.after, Region.binds md e = true → e.on ≠ i := fun e he hb heq => by
        have h1 := hall e he hb
        rw [heq, hiun] at h1
        cases h1
      have h2 := wpOp_putIf hoj (hfree j oj hoj hji hjun hnot) (fun cs b => hsel i oi cs b hi) (fun cs b => hsel j oj cs b hoj) hQ hy h1
      have hfree' : ∀ k ok, ops[k]? = some ok → k ≠ i → (listed.setIfInBounds j true).getD k true = false →
          (∀ e ∈ ok.after, Region.binds md e = true → e.on ≠ i) → oi.apart ops ok = true := fun k ok hk hki hun hno => by
        refine hfree k ok hk hki ?_ hno
        by_cases hjk : j = k
        · subst hjk; exact hjun
        · rw [getD_set_ne true hjk] at hun; exact hun
      refine wpOp_mono (fun a' w' h3 => ?_) h2
      have hS' : S w' := h3.2.1.resolve_left hjs
      refine ⟨h3.2.1, ih (listed.setIfInBounds j true) a' w' hfree' (ready_mono hr (Ne.symm hji)) h3.1 hS' ?_⟩
      rw [Array.setIfInBounds_comm _ _ hji]
      exact h3.2.2

theorem wpAnyM_take {i : Nat} {oi : Oper} {v : Value} {fuel : Nat} {listed : Array Bool} {a : Act} {w : World} (hi : ops[i]? = some oi)
    (hs : Region.noSelect ops = true) (hf : Region.free md ops listed i = true) (hr : (Region.ready md ops listed).contains i = true) (hws : waitsB md ops s i = true) (his : i ≠ s)
    (hQ : ∀ c a w, Q (.panic c) (a.put oi.dst v) w → Q (.panic c) a w) (hS : S w) (hy : YieldsIf P ops S oi v a)
    (h : wpAnyM P md ops Q S s fuel (listed.setIfInBounds i true) (a.put oi.dst v) w) : wpAnyM P md ops Q S s (fuel + 1) listed a w :=
  wpAnyM_first hi (Region.noSelect_spec hs) hQ hws his fuel listed a w (Region.free_spec hi hf) (by simpa using hr) hy hS h

/-- The one operation that may come up. -/
theorem wpAnyM_only {i : Nat} {oi : Oper} {fuel : Nat} {listed : Array Bool} {a : Act} {w : World} (hi : ops[i]? = some oi) (hr : Region.ready md ops listed = [i])
    (h : ∀ K : Act → World → Prop, Shut (∀ a w, (i = s ∨ S w) → wpAnyM P md ops Q S s fuel (listed.setIfInBounds i true) a w → K a w) → if Region.wanted oi (yielded ops a.tmps) = true then Oper.wp P oi a w K Q else K (a.put oi.dst undef) w) :
    wpAnyM P md ops Q S s (fuel + 1) listed a w := by
  refine ⟨fun h0 => (by rw [hr] at h0; cases h0), fun j hj => ?_⟩
  rw [hr] at hj
  simp at hj
  subst hj
  exact wpOp_step hi (fun K hK => h K (fun a w h1 h2 => hK a w ⟨h1, h2⟩))

theorem wpAnyM_done {fuel : Nat} {listed : Array Bool} {a : Act} {w : World} (hr : Region.ready md ops listed = []) (h : Q .normal a w) : wpAnyM P md ops Q S s fuel listed a w := by
  cases fuel with
  | zero => exact ⟨hr, h⟩
  | succ n => exact ⟨fun _ => h, fun i hi => by rw [hr] at hi; cases hi⟩

theorem wp_region_m {id : Nat} {a : Act} {w : World} (s : Nat) (S : World → Prop) (hm : P.follows .mixedOrders = true)
    (h : wpAnyM P .any ops (NoPanic Q) S s ops.size (Array.replicate ops.size false) a w.drew) : (Code.region id ops true).wp P Q a w :=
  wp_region_noPanic (wp_region_any hm (wpAny_of_m _ _ _ _ h))
end
end
section
open Go

section
variable {P : Program} {ops : Array Oper} {Q : Exit → Act → World → Prop} {md : Region.Mode} {S : World → Prop} {s : Nat}

/-- Whatever order is picked, and S holds behind each operation until number s has run. -/
def wpAnyN (P : Program) (md : Region.Mode) (ops : Array Oper) (Q : Exit → Act → World → Prop) (S : World → Prop) (s : Nat) : Nat → Array Bool → Act → World → Prop
  | 0, listed, a, w => Region.ready md ops listed = [] ∧ Q .normal a w
  | fuel + 1, listed, a, w =>
    (Region.ready md ops listed = [] → Q .normal a w) ∧
    ∀ i ∈ Region.ready md ops listed, wpOp P ops Q i (fun a' w' => ((listed.setIfInBounds i true).getD s false = true ∨ S w') ∧ wpAnyN P md ops Q S s fuel (listed.setIfInBounds i true) a' w') a w

theorem wpAny_of_n : ∀ (fuel : Nat) (listed : Array Bool) (a : Act) (w : World), wpAnyN P md ops Q S s fuel listed a w → wpAny P md ops Q fuel listed a w
  | 0, _, _, _, h => h
  | fuel + 1, _, _, _, h => ⟨h.1, fun i hi => wpOp_mono (fun a' w' h' => wpAny_of_n fuel _ a' w' h'.2) (h.2 i hi)⟩

theorem wpAnyN_first {i : Nat} {oi : Oper} {v : Value} (hi : ops[i]? = some oi) (hsel : ∀ (j : Nat) (o : Oper) cs b, ops[j]? = some o → o.op ≠ .select cs b)
    (hQ : ∀ c a w, Q (.panic c) (a.put oi.dst v) w → Q (.panic c) a w) (hws : waitsB md ops s i = true) (his : i ≠ s) :
    ∀ (fuel : Nat) (listed : Array Bool) (a : Act) (w : World),
      (∀ j oj, ops[j]? = some oj → j ≠ i → listed.getD j true = false → (∀ e ∈ oj.after, Region.binds md e = true → e.on ≠ i) → oi.apart ops oj = true) →
      listed.getD s false = false → i ∈ Region.ready md ops listed → YieldsIf P ops S oi v a → S w →
      wpAnyN P md ops Q S s fuel (listed.setIfInBounds i true) (a.put oi.dst v) w → wpAnyN P md ops Q S s (fuel + 1) listed a w := by
  intro fuel
  induction fuel with
  | zero =>
    intro listed a w _ hun hr hy hS H
    refine ⟨fun h => (by rw [h] at hr; cases hr), fun j hj => ?_⟩
    by_cases hji : j = i
    · subst hji; exact hy.wpOp hi hS ⟨.inr hS, H⟩
    · have := ready_mono hj hji
      rw [H.1] at this
      cases this
  | succ fuel ih =>
    intro listed a w hfree hun hr hy hS H
    refine ⟨fun h => (by rw [h] at hr; cases hr), fun j hj => ?_⟩
    by_cases hji : j = i
    · subst hji; exact hy.wpOp hi hS ⟨.inr hS, H⟩
    · have h1 := H.2 j (ready_mono hj hji)
      obtain ⟨hjun, oj, hoj, hall⟩ := mem_ready.1 hj
      have h0 := (mem_ready.1 hr).1
      have hiun : listed.getD i false = false := by
        rcases Nat.lt_or_ge i listed.size with h' | h'
        · simp [h'] at h0 ⊢; exact h0
        · simp [Array.getElem?_eq_none h']
      have hjs : j ≠ s := fun e => by
        subst e
        rw [waits_listed hws hj] at hiun
        cases hiun
      have hnot : ∀ e ∈ oj.after, Region.binds md e = true → e.on ≠ i := fun e he hb heq => by
        have h1 := hall e he hb
        rw [heq, hiun] at h1
        cases h1
      have h2 := wpOp_putIf hoj (hfree j oj hoj hji hjun hnot) (fun cs b => hsel i oi cs b hi) (fun cs b => hsel j oj cs b hoj) hQ hy h1
      have hfree' : ∀ k ok, ops[k]? = some ok → k ≠ i → (listed.setIfInBounds j true).getD k true = false →
          (∀ e ∈ ok.after, Region.binds md e = true → e.on ≠ i) → oi.apart ops ok = true := fun k ok hk hki hun hno => by
        refine hfree k ok hk hki ?_ hno
        by_cases hjk : j = k
        · subst hjk; exact hjun
        · rw [getD_set_ne true hjk] at hun; exact hun
      refine wpOp_mono (fun a' w' h3 => ?_) h2
      have hun' : (listed.setIfInBounds j true).getD s false = false := by rw [getD_set_ne false hjs]; exact hun
      have hun2 : ((listed.setIfInBounds i true).setIfInBounds j true).getD s false = false := by rw [getD_set_ne false hjs, getD_set_ne false his]; exact hun
      have hS' : S w' := h3.2.1.resolve_left (by rw [hun2]; exact Bool.false_ne_true)
      refine ⟨?_, ih (listed.setIfInBounds j true) a' w' hfree' hun' (ready_mono hr (Ne.symm hji)) h3.1 hS' ?_⟩
      · exact .inr hS'
      rw [Array.setIfInBounds_comm _ _ hji]
      exact h3.2.2

/-- What yields its value in every world. -/
theorem wpAnyN_pureFirst {i : Nat} {oi : Oper} {v : Value} (hi : ops[i]? = some oi) (hsel : ∀ (j : Nat) (o : Oper) cs b, ops[j]? = some o → o.op ≠ .select cs b)
    (hQ : ∀ c a w, Q (.panic c) (a.put oi.dst v) w → Q (.panic c) a w) (his : i ≠ s) :
    ∀ (fuel : Nat) (listed : Array Bool) (a : Act) (w : World),
      (∀ j oj, ops[j]? = some oj → j ≠ i → listed.getD j true = false → (∀ e ∈ oj.after, Region.binds md e = true → e.on ≠ i) → oi.apart ops oj = true) →
      i ∈ Region.ready md ops listed → YieldsIf P ops (fun _ => True) oi v a → ((listed.setIfInBounds i true).getD s false = true ∨ S w) →
      wpAnyN P md ops Q S s fuel (listed.setIfInBounds i true) (a.put oi.dst v) w → wpAnyN P md ops Q S s (fuel + 1) listed a w := by
  intro fuel
  induction fuel with
  | zero =>
    intro listed a w _ hr hy hS H
    refine ⟨fun h => (by rw [h] at hr; cases hr), fun j hj => ?_⟩
    by_cases hji : j = i
    · subst hji; exact hy.wpOp hi trivial ⟨hS, H⟩
    · have := ready_mono hj hji
      rw [H.1] at this
      cases this
  | succ fuel ih =>
    intro listed a w hfree hr hy hS H
    refine ⟨fun h => (by rw [h] at hr; cases hr), fun j hj => ?_⟩
    by_cases hji : j = i
    · subst hji; exact hy.wpOp hi trivial ⟨hS, H⟩
    · have h1 := H.2 j (ready_mono hj hji)
      obtain ⟨hjun, oj, hoj, hall⟩ := mem_ready.1 hj
      have h0 := (mem_ready.1 hr).1
      have hiun : listed.getD i false = false := by
        rcases Nat.lt_or_ge i listed.size with h' | h'
        · simp [h'] at h0 ⊢; exact h0
        · simp [Array.getElem?_eq_none h']
      have hnot : ∀ e ∈ oj.after, Region.binds md e = true → e.on ≠ i := fun e he hb heq => by
        have h1 := hall e he hb
        rw [heq, hiun] at h1
        cases h1
      have h2 := wpOp_putIf hoj (hfree j oj hoj hji hjun hnot) (fun cs b => hsel i oi cs b hi) (fun cs b => hsel j oj cs b hoj) hQ hy h1
      have hfree' : ∀ k ok, ops[k]? = some ok → k ≠ i → (listed.setIfInBounds j true).getD k true = false →
          (∀ e ∈ ok.after, Region.binds md e = true → e.on ≠ i) → oi.apart ops ok = true := fun k ok hk hki hun hno => by
        refine hfree k ok hk hki ?_ hno
        by_cases hjk : j = k
        · subst hjk; exact hjun
        · rw [getD_set_ne true hjk] at hun; exact hun
      refine wpOp_mono (fun a' w' h3 => ?_) h2
      have hc : ((listed.setIfInBounds j true).setIfInBounds i true).getD s false = true ∨ S w' := by
        rw [Array.setIfInBounds_comm _ _ hji]
        exact h3.2.1
      refine ⟨?_, ih (listed.setIfInBounds j true) a' w' hfree' (ready_mono hr (Ne.symm hji)) h3.1 hc ?_⟩
      · rcases h3.2.1 with h4 | h4
        · left
          rw [Array.setIfInBounds_comm _ _ (Ne.symm hji), getD_set_ne false his] at h4
          exact h4
        · exact .inr h4
      · rw [Array.setIfInBounds_comm _ _ hji]
        exact h3.2.2

theorem wpAnyN_take {i : Nat} {oi : Oper} {v : Value} {fuel : Nat} {listed : Array Bool} {a : Act} {w : World} (hi : ops[i]? = some oi)
    (hs : Region.noSelect ops = true) (hf : Region.free md ops listed i = true) (hr : (Region.ready md ops listed).contains i = true) (hws : waitsB md ops s i = true) (his : i ≠ s) (hun : listed.getD s false = false)
    (hQ : ∀ c a w, Q (.panic c) (a.put oi.dst v) w → Q (.panic c) a w) (hS : S w) (hy : YieldsIf P ops S oi v a)
    (h : wpAnyN P md ops Q S s fuel (listed.setIfInBounds i true) (a.put oi.dst v) w) : wpAnyN P md ops Q S s (fuel + 1) listed a w :=
  wpAnyN_first hi (Region.noSelect_spec hs) hQ hws his fuel listed a w (Region.free_spec hi hf) hun (by simpa using hr) hy hS h

theorem wpAnyN_pure {i : Nat} {oi : Oper} {v : Value} {fuel : Nat} {listed : Array Bool} {a : Act} {w : World} (hi : ops[i]? = some oi)
    (hs : Region.noSelect ops = true) (hf : Region.free md ops listed i = true) (hr : (Region.ready md ops listed).contains i = true) (his : i ≠ s)
    (hQ : ∀ c a w, Q (.panic c) (a.put oi.dst v) w → Q (.panic c) a w) (hS : (listed.setIfInBounds i true).getD s false = true ∨ S w) (hy : YieldsIf P ops (fun _ => True) oi v a)
    (h : wpAnyN P md ops Q S s fuel (listed.setIfInBounds i true) (a.put oi.dst v) w) : wpAnyN P md ops Q S s (fuel + 1) listed a w :=
  wpAnyN_pureFirst hi (Region.noSelect_spec hs) hQ his fuel listed a w (Region.free_spec hi hf) (by simpa using hr) hy hS h

/-- The one operation that may come up. -/
theorem wpAnyN_only {i : Nat} {oi : Oper} {fuel : Nat} {listed : Array Bool} {a : Act} {w : World} (hi : ops[i]? = some oi) (hr : Region.ready md ops listed = [i])
    (h : ∀ K : Act → World → Prop, Shut (∀ a w, ((listed.setIfInBounds i true).getD s false = true ∨ S w) → wpAnyN P md ops Q S s fuel (listed.setIfInBounds i true) a w → K a w) → if Region.wanted oi (yielded ops a.tmps) = true then Oper.wp P oi a w K Q else K (a.put oi.dst undef) w) :
    wpAnyN P md ops Q S s (fuel + 1) listed a w := by
  refine ⟨fun h0 => (by rw [hr] at h0; cases h0), fun j hj => ?_⟩
  rw [hr] at hj
  simp at hj
  subst hj
  exact wpOp_step hi (fun K hK => h K (fun a w h1 h2 => hK a w ⟨h1, h2⟩))

theorem wpAnyN_done {fuel : Nat} {listed : Array Bool} {a : Act} {w : World} (hr : Region.ready md ops listed = []) (h : Q .normal a w) : wpAnyN P md ops Q S s fuel listed a w := by
  cases fuel with
  | zero => exact ⟨hr, h⟩
  | succ n => exact ⟨fun _ => h, fun i hi => by rw [hr] at hi; cases hi⟩

theorem wp_region_n {id : Nat} {a : Act} {w : World} (s : Nat) (S : World → Prop) (hm : P.follows .mixedOrders = true)
    (h : wpAnyN P .any ops (NoPanic Q) S s ops.size (Array.replicate ops.size false) a w.drew) : (Code.region id ops true).wp P Q a w :=
  wp_region_noPanic (wp_region_any hm (wpAny_of_n _ _ _ _ h))
end
end
section
open Go.RowKit

/-- Block g of N cells of type t holds xs from its head on. -/
def Fills (w : World) (g : Nat) (t : TypeId) (N : Nat) (xs : List Value) : Prop := ∃ cs : Array Value, Blk w g t cs ∧ cs.size = N ∧ ∀ (j : Nat) (u : Value), xs[j]? = some u → cs[j]? = some u

section
variable {w w' : World} {g N : Nat} {t : TypeId} {xs : List Value}
theorem Fills.grown {row : Option Nat} (h : Fills w g t N xs) (hg : w.grownBy w' row) (hne : some g ≠ row) : Fills w' g t N xs := by
  obtain ⟨cs, h1, h2⟩ := h
  exact ⟨cs, h1.grown hg hne, h2⟩
theorem Fills.below {B : Nat} (h : Fills w g t N xs) (hb : Below B w w') (hg : g < B) : Fills w' g t N xs := by
  obtain ⟨cs, h1, h2⟩ := h
  exact ⟨cs, h1.below hb hg, h2⟩
theorem Fills.drewN (h : Fills w g t N xs) (k : Nat) : Fills (w.drewN k) g t N xs := h
theorem Fills.alloc (h : Fills w g t N xs) (o : Obj) : Fills (w.alloc o) g t N xs := by
  obtain ⟨cs, h1, h2⟩ := h
  exact ⟨cs, h1.alloc o, h2⟩
theorem Fills.lt (h : Fills w g t N xs) : g < w.heap.size := by
  obtain ⟨cs, h1, h2⟩ := h
  exact h1.lt
theorem Fills.made (w : World) (cs : Array Value) (t : TypeId) : Fills (w.alloc (.cells cs t)) w.heap.size t cs.size [] := ⟨cs, Blk.new _ _ _, rfl, fun j u h => by simp at h⟩
theorem Fills.cell (h : Fills w g t N xs) (j : Nat) (hj : j < N) : ∃ u, w.cell? ⟨g, j, none⟩ = some u ∧ w.frozen? ⟨g, j, none⟩ = false := by
  obtain ⟨cs, h1, h2, _⟩ := h
  exact ⟨cs[j], by rw [h1.cell]; exact Array.getElem?_eq_getElem (by omega), h1.frozen j⟩
theorem Fills.there (h : Fills w g t N xs) (o n : Nat) (hn : o + n ≤ N) : w.there g o n := fun j hj => by
  obtain ⟨u, h1, h2⟩ := h.cell (o + j) (by omega)
  exact ⟨by rw [h1]; rfl, h2⟩
theorem Fills.put (h : Fills w g t N xs) (hl : xs.length < N) (u : Value) : Fills (w.setCell ⟨g, xs.length, none⟩ u) g t N (xs ++ [u]) := by
  obtain ⟨cs, h1, h2, h3⟩ := h
  refine ⟨_, h1.set_ xs.length u, by simpa using h2, fun j v hv => ?_⟩
  rw [Array.getElem?_setIfInBounds]
  by_cases e : xs.length = j
  · subst e
    rw [if_pos rfl, if_pos (by omega)]
    simpa using hv
  · rw [if_neg e]
    have hlt := (List.getElem?_eq_some_iff.1 hv).1
    rw [List.length_append] at hlt
    simp at hlt
    rw [List.getElem?_append_left (by omega)] at hv
    exact h3 j v hv
theorem Fills.puts : ∀ (us xs : List Value) (w : World), Fills w g t N xs → xs.length + us.length ≤ N → Fills (w.setCells g xs.length us) g t N (xs ++ us)
  | [], xs, w, h, _ => by simpa [World.setCells] using h
  | u :: us, xs, w, h, hl => by
    rw [List.length_cons] at hl
    have h1 := h.put (by omega) u
    have h2 := Fills.puts us (xs ++ [u]) _ h1 (by simp; omega)
    rw [List.length_append, List.append_assoc] at h2
    exact h2
/-- A row that is filled whole is the call's own. -/
theorem Fills.own {n size base : Nat} (h : Fills w g t (n * size) xs) (hl : xs.length = n * size) (hb : base ≤ g) (hn : n ≤ maxLen) : w.ownsRow base t size (.slice (some ⟨g, 0, none⟩) n n) n xs := by
  obtain ⟨cs, h1, h2, h3⟩ := h
  refine ⟨hl, .inr ⟨g, n, cs, rfl, hb, h1, Nat.le_refl _, hn, h2, ?_⟩⟩
  apply List.ext_getElem?
  intro j
  by_cases hj : j < xs.length
  · rw [List.getElem?_take_of_lt (by omega), Array.getElem?_toList, List.getElem?_eq_getElem hj]
    exact h3 j _ (List.getElem?_eq_getElem hj)
  · rw [List.getElem?_eq_none (l := xs) (by omega), List.getElem?_eq_none]
    rw [List.length_take]
    omega
end
theorem below_setCells {B g : Nat} {a : World} (hg : B ≤ g) : ∀ (us : List Value) (o : Nat) (w : World), Below B a w → Below B a (w.setCells g o us)
  | [], _, _, h => h
  | u :: us, o, w, h => below_setCells hg us (o + 1) _ (h.setCell (by exact hg) u)
end
section
open Go.RowKit

theorem idir_info : (Tryz.prog.info? 101).map (fun i => (i.zero, i.size, i.bytes)) = some (some (.agg #[.string ByteArray.empty, .string ByteArray.empty, .int .i64 0, .int .i64 0, .int .i64 0]), 5, 56) := by kernel_rfl

set_option maxHeartbeats 4000000 in
set_option maxRecDepth 100000 in
theorem told_any (B : Nat) (v : Value) (ds : List DirD) (w : World) (hB : B ≤ w.heap.size) (hl : ds.length ≤ 1000) (hd : DirsAt w B v ds) :
    Calls Tryz.prog 57 #[v] w fun e w' => ∃ A c, e = .returned (.slice A ds.length c) ∧ w'.ownsRow w.heap.size 101 5 (.slice A ds.length c) ds.length (ds.flatMap dirCells) ∧ Below w.heap.size w w' := by
  obtain ⟨i0, hi0, hz0, hz1, hz2⟩ := info_parts' idir_info
  obtain ⟨A, c, rfl, hrd⟩ := hd
  have HRD := Lib.hid hrd
  have hown0 : (w.alloc (.cells #[] 101)).ownsRow w.heap.size 101 5 (.slice (some ⟨w.heap.size, 0, none⟩) 0 0) 0 [] := World.ownsRow_made w #[] 0 (Nat.le_refl _) (by simp [maxLen]) rfl
  have hbw0 : Below w.heap.size w (w.alloc (.cells #[] 101)) := (Below.refl _ _).alloc (Nat.le_refl _) _
  have HOW0 := Lib.hid hown0
  clear hrd hown0
  go_enter Tryz.func57, Tryz.ntmps57
  go_wp2_with fail
  go_loopw [3, 5, 9] (fun v _ i wr => ∃ k : Nat, k ≤ ds.length ∧ i = .int .i64 k ∧ wr.ownsRow w.heap.size 101 5 v k ((ds.take k).flatMap dirCells) ∧ Below w.heap.size w wr) (fun _ _ i _ => ds.length - (intOf i).toNat)
  case atStart => exact ⟨0, Nat.zero_le _, rfl, HOW0.out, hbw0⟩
  case round =>
    obtain ⟨k, hk, rfl, hown, hF⟩ := hrel
    clear hbw0
    have hsz := hF.size
    by_cases hlt : k < ds.length
    · obtain ⟨ag, ao, rfl, hab, hc0, hc1, hc2, hc3, hc4⟩ := DirsAt.cells (HRD.out.below (hF.mono hB)) k hlt
      have hsn := Lib.hid (flat_snoc ds k hlt)
      generalize ds[k] = d at hc0 hc1 hc2 hc3 hc4 hsn
      have hown2 := (hown.alloc (.cells #[.string d.text, .string d.at_.fn, .int .i64 d.at_.o, .int .i64 d.at_.l, .int .i64 d.at_.c] 90)).alloc (.cells (dirCells d).toArray 101)
      have hnew := cells_new (wr.alloc (.cells #[.string d.text, .string d.at_.fn, .int .i64 d.at_.o, .int .i64 d.at_.l, .int .i64 d.at_.c] 90)) (dirCells d).toArray 101 (wr.heap.size + 1) (by simp)
      have hF2 : Below w.heap.size w ((wr.alloc (.cells #[.string d.text, .string d.at_.fn, .int .i64 d.at_.o, .int .i64 d.at_.l, .int .i64 d.at_.c] 90)).alloc (.cells (dirCells d).toArray 101)) := (hF.alloc hsz _).alloc (by simp; omega) _
      have hown0 := hown
      clear hown
      go_wp2_with (at_builtin; refine wpList_append_own_at _ rfl (.tmp 13) (.tmp 30) _ rfl w.heap.size 101 i0 _ 5 56 Tryz.underlying41 hi0 hz0 hz1 hz2 rfl (by decide) _ k _ rfl hown2 ⟨wr.heap.size + 1, 0, none⟩ 1 1 (dirCells d) rfl rfl hnew (dirs_one d) (by unfold maxLen; omega) (by omega) (by simp; omega) ?_; intro v4 w4 hown4 hgrow4 _ hat4)
      have hF4 : Below w.heap.size w w4 := hF2.grown hgrow4 hF2.size (fun j hj => (hown0.lt j hj).1)
      have hown5 : w4.ownsRow w.heap.size 101 5 v4 (k + 1) ((ds.take (k + 1)).flatMap dirCells) := by
        rw [hsn.out]
        exact hown4
      have HO5 := Lib.hid hown5
      clear hown4 hown5 hgrow4 hat4 hown0 hown2 hnew
      go_roundw
      case rel => exact ⟨k + 1, by omega, by go_num, HO5.out, hF4⟩
      case measure => simp [intOf]; omega
    · have hkl : k = ds.length := by omega
      subst hkl
      rw [List.take_length] at hown
      obtain ⟨A', c', hv⟩ := own_form' hown
      subst hv
      have HO := Lib.hid hown
      clear hown
      go_wp2_with fail
      go_ret
      exact ⟨A', c', rfl, HO.out, hF⟩
end
section
open Go.RowKit
attribute [local go_sem ↓] Go.wp_at_zero Go.wp_at_succ

set_option maxHeartbeats 1000000 in
theorem tf_end (base g : Nat) (f : FileD) (zs : Array Value) (hz : zs.size = 13) (w wA wI wE wD : World) (AA AI AE AD : Option Addr) (cA cI cE cD : Nat) (hbk : Blk wD g 43 zs) (hbkA : Blk wA g 43 zs) (hbg : base ≤ g)
    (hownA : wA.ownsRow base 9 1 (.slice AA f.cons.length cA) f.cons.length (f.cons.map Value.string))
    (hownI : wI.ownsRow wA.heap.size 101 5 (.slice AI f.imps.length cI) f.imps.length (f.imps.flatMap dirCells)) (hbI : Below wA.heap.size wA wI)
    (hownE : wE.ownsRow wI.heap.size 101 5 (.slice AE f.embs.length cE) f.embs.length (f.embs.flatMap dirCells)) (hbE : Below wI.heap.size wI wE)
    (hownD : wD.ownsRow wE.heap.size 101 5 (.slice AD f.dirs.length cD) f.dirs.length (f.dirs.flatMap dirCells)) (hbD : Below wE.heap.size wE wD) (hbelD : Below base w wD) :
    FileT (((((((((((((wD.setCell ⟨g, 0, none⟩ (.string f.err)).setCell ⟨g, 1, none⟩ (.string f.perr)).setCell ⟨g, 2, none⟩ (.string f.name)).setCell ⟨g, 3, none⟩ (.string f.syn)).setCell ⟨g, 4, none⟩ (.string f.pkg)).setCell ⟨g, 5, none⟩ (.bool f.ign)).setCell ⟨g, 6, none⟩ (.bool f.bin)).setCell ⟨g, 7, none⟩ (.string f.cgo)).setCell ⟨g, 8, none⟩ (.string f.con)).setCell ⟨g, 9, none⟩ (.slice AA f.cons.length cA)).setCell ⟨g, 10, none⟩ (.slice AI f.imps.length cI)).setCell ⟨g, 11, none⟩ (.slice AE f.embs.length cE)).setCell ⟨g, 12, none⟩ (.slice AD f.dirs.length cD)) (((((((((((((wD.setCell ⟨g, 0, none⟩ (.string f.err)).setCell ⟨g, 1, none⟩ (.string f.perr)).setCell ⟨g, 2, none⟩ (.string f.name)).setCell ⟨g, 3, none⟩ (.string f.syn)).setCell ⟨g, 4, none⟩ (.string f.pkg)).setCell ⟨g, 5, none⟩ (.bool f.ign)).setCell ⟨g, 6, none⟩ (.bool f.bin)).setCell ⟨g, 7, none⟩ (.string f.cgo)).setCell ⟨g, 8, none⟩ (.string f.con)).setCell ⟨g, 9, none⟩ (.slice AA f.cons.length cA)).setCell ⟨g, 10, none⟩ (.slice AI f.imps.length cI)).setCell ⟨g, 11, none⟩ (.slice AE f.embs.length cE)).setCell ⟨g, 12, none⟩ (.slice AD f.dirs.length cD)).heap.size 101 (fileCells f (.slice AA f.cons.length cA) (.slice AI f.imps.length cI) (.slice AE f.embs.length cE) (.slice AD f.dirs.length cD)) f ∧ Below base w (((((((((((((wD.setCell ⟨g, 0, none⟩ (.string f.err)).setCell ⟨g, 1, none⟩ (.string f.perr)).setCell ⟨g, 2, none⟩ (.string f.name)).setCell ⟨g, 3, none⟩ (.string f.syn)).setCell ⟨g, 4, none⟩ (.string f.pkg)).setCell ⟨g, 5, none⟩ (.bool f.ign)).setCell ⟨g, 6, none⟩ (.bool f.bin)).setCell ⟨g, 7, none⟩ (.string f.cgo)).setCell ⟨g, 8, none⟩ (.string f.con)).setCell ⟨g, 9, none⟩ (.slice AA f.cons.length cA)).setCell ⟨g, 10, none⟩ (.slice AI f.imps.length cI)).setCell ⟨g, 11, none⟩ (.slice AE f.embs.length cE)).setCell ⟨g, 12, none⟩ (.slice AD f.dirs.length cD)) ∧
      Blk (((((((((((((wD.setCell ⟨g, 0, none⟩ (.string f.err)).setCell ⟨g, 1, none⟩ (.string f.perr)).setCell ⟨g, 2, none⟩ (.string f.name)).setCell ⟨g, 3, none⟩ (.string f.syn)).setCell ⟨g, 4, none⟩ (.string f.pkg)).setCell ⟨g, 5, none⟩ (.bool f.ign)).setCell ⟨g, 6, none⟩ (.bool f.bin)).setCell ⟨g, 7, none⟩ (.string f.cgo)).setCell ⟨g, 8, none⟩ (.string f.con)).setCell ⟨g, 9, none⟩ (.slice AA f.cons.length cA)).setCell ⟨g, 10, none⟩ (.slice AI f.imps.length cI)).setCell ⟨g, 11, none⟩ (.slice AE f.embs.length cE)).setCell ⟨g, 12, none⟩ (.slice AD f.dirs.length cD)) g 43 (fileCells f (.slice AA f.cons.length cA) (.slice AI f.imps.length cI) (.slice AE f.embs.length cE) (.slice AD f.dirs.length cD)).toArray := by
  have hG : wD.grownBy (((((((((((((wD.setCell ⟨g, 0, none⟩ (.string f.err)).setCell ⟨g, 1, none⟩ (.string f.perr)).setCell ⟨g, 2, none⟩ (.string f.name)).setCell ⟨g, 3, none⟩ (.string f.syn)).setCell ⟨g, 4, none⟩ (.string f.pkg)).setCell ⟨g, 5, none⟩ (.bool f.ign)).setCell ⟨g, 6, none⟩ (.bool f.bin)).setCell ⟨g, 7, none⟩ (.string f.cgo)).setCell ⟨g, 8, none⟩ (.string f.con)).setCell ⟨g, 9, none⟩ (.slice AA f.cons.length cA)).setCell ⟨g, 10, none⟩ (.slice AI f.imps.length cI)).setCell ⟨g, 11, none⟩ (.slice AE f.embs.length cE)).setCell ⟨g, 12, none⟩ (.slice AD f.dirs.length cD)) (some g) := (grown_set (grown_set (grown_set (grown_set (grown_set (grown_set (grown_set (grown_set (grown_set (grown_set (grown_set (grown_set (grown_set (World.grownBy.refl wD _) _ _) _ _) _ _) _ _) _ _) _ _) _ _) _ _) _ _) _ _) _ _) _ _) _ _)
  have hgl := hbk.lt
  have hgA := hbkA.lt
  have hszI := hbI.size
  have hszE := hbE.size
  have hszD := hbD.size
  have hzs : ∃ a b c d e f g h i j k l m, zs = #[a, b, c, d, e, f, g, h, i, j, k, l, m] := by
    obtain ⟨l⟩ := zs
    match l, hz with
    | [a, b, c, d, e, f, g, h, i, j, k, l, m], _ => exact ⟨a, b, c, d, e, f, g, h, i, j, k, l, m, rfl⟩
  obtain ⟨_, _, _, _, _, _, _, _, _, _, _, _, _, rfl⟩ := hzs
  have hB := (((((((((((((hbk.set_ 0 (.string f.err)).set_ 1 (.string f.perr)).set_ 2 (.string f.name)).set_ 3 (.string f.syn)).set_ 4 (.string f.pkg)).set_ 5 (.bool f.ign)).set_ 6 (.bool f.bin)).set_ 7 (.string f.cgo)).set_ 8 (.string f.con)).set_ 9 (.slice AA f.cons.length cA)).set_ 10 (.slice AI f.imps.length cI)).set_ 11 (.slice AE f.embs.length cE)).set_ 12 (.slice AD f.dirs.length cD))
  simp only [List.setIfInBounds_toArray, List.set_cons_zero, List.set_cons_succ] at hB
  generalize (((((((((((((wD.setCell ⟨g, 0, none⟩ (.string f.err)).setCell ⟨g, 1, none⟩ (.string f.perr)).setCell ⟨g, 2, none⟩ (.string f.name)).setCell ⟨g, 3, none⟩ (.string f.syn)).setCell ⟨g, 4, none⟩ (.string f.pkg)).setCell ⟨g, 5, none⟩ (.bool f.ign)).setCell ⟨g, 6, none⟩ (.bool f.bin)).setCell ⟨g, 7, none⟩ (.string f.cgo)).setCell ⟨g, 8, none⟩ (.string f.con)).setCell ⟨g, 9, none⟩ (.slice AA f.cons.length cA)).setCell ⟨g, 10, none⟩ (.slice AI f.imps.length cI)).setCell ⟨g, 11, none⟩ (.slice AE f.embs.length cE)).setCell ⟨g, 12, none⟩ (.slice AD f.dirs.length cD)) = WF at hG hB ⊢
  have hneA : Value.ownBlock (.slice AA f.cons.length cA) ≠ some g := own_blk_ne hownA hbkA (by decide)
  have hneI : Value.ownBlock (.slice AI f.imps.length cI) ≠ some g := fun e => by have := (hownI.lt _ e).1; omega
  have hneE : Value.ownBlock (.slice AE f.embs.length cE) ≠ some g := fun e => by have := (hownE.lt _ e).1; omega
  have hneD : Value.ownBlock (.slice AD f.dirs.length cD) ≠ some g := fun e => by have := (hownD.lt _ e).1; omega
  have bID := (hbI.trans (hbE.mono hszI)).trans (hbD.mono (Nat.le_trans hszI hszE))
  have bED := hbE.trans (hbD.mono hszE)
  have hoA := TR.of_own ((own_below hownA bID).kept hG (.inr hneA))
  have hoI := TR.of_own ((own_below hownI bED).kept hG (.inr hneI))
  have hoE := TR.of_own ((own_below hownE hbD).kept hG (.inr hneE))
  have hoD := TR.of_own (hownD.kept hG (.inr hneD))
  exact ⟨⟨_, _, _, _, rfl, ⟨AA, cA, rfl, hoA⟩, ⟨AI, cI, rfl, hoI⟩, ⟨AE, cE, rfl, hoE⟩, ⟨AD, cD, rfl, hoD⟩⟩, hbelD.grown hG (by omega) (fun k hk => by injection hk with hk; omega), hB⟩

set_option maxHeartbeats 8000000 in
set_option maxRecDepth 100000 in
theorem toldFile_any (B : Nat) (f : FileD) (cs : List Value) (w : World) (hB : B ≤ w.heap.size) (hl0 : f.cons.length ≤ 1000) (hl1 : f.imps.length ≤ 1000) (hl2 : f.embs.length ≤ 1000) (hl3 : f.dirs.length ≤ 1000) (hr : FileR w B cs f) :
    Calls Tryz.prog 30 #[.agg cs.toArray] w fun e w' => ∃ cs', e = .returned (.agg cs'.toArray) ∧ FileT w' w'.heap.size 101 cs' f ∧ Below w.heap.size w w' := by
  obtain ⟨i0, hi0, hz0, hz1, hz2⟩ := info_parts' text_info
  obtain ⟨vc, vi, ve, vd, rfl, ⟨Ac, cc, rfl, hvc⟩, ⟨Ai, ci, rfl, hvi⟩, ⟨Ae, ce, rfl, hve⟩, ⟨Ad, cd, rfl, hvd⟩⟩ := hr
  have GI := Lib.hid (fun (W : World) (hW : Below w.heap.size w W) => told_any B _ f.imps W (Nat.le_trans hB hW.size) hl1 ⟨Ai, ci, rfl, hvi.below (hW.mono hB)⟩)
  have GE' := Lib.hid (fun (W : World) (hW : Below w.heap.size w W) => told_any B _ f.embs W (Nat.le_trans hB hW.size) hl2 ⟨Ae, ce, rfl, hve.below (hW.mono hB)⟩)
  have GD := Lib.hid (fun (W : World) (hW : Below w.heap.size w W) => told_any B _ f.dirs W (Nat.le_trans hB hW.size) hl3 ⟨Ad, cd, rfl, hvd.below (hW.mono hB)⟩)
  have HVC := Lib.hid (fun (W : World) (hW : Below w.heap.size w W) => hvc.below (hW.mono hB))
  clear hvc hvi hve hvd
  obtain ⟨W0, HW0⟩ : ∃ W0, W0 = (w.alloc (.cells (fileCells f (.slice Ac f.cons.length cc) (.slice Ai f.imps.length ci) (.slice Ae f.embs.length ce) (.slice Ad f.dirs.length cd)).toArray 56)).alloc (.cells #[.string { data := #[] }, .string { data := #[] }, .string { data := #[] }, .string { data := #[] }, .string { data := #[] }, .bool false, .bool false, .string { data := #[] }, .string { data := #[] }, .slice none 0 0, .slice none 0 0, .slice none 0 0, .slice none 0 0] 43) := ⟨_, rfl⟩
  have hblk1 := (Blk.new w 56 (fileCells f (.slice Ac f.cons.length cc) (.slice Ai f.imps.length ci) (.slice Ae f.embs.length ce) (.slice Ad f.dirs.length cd)).toArray).alloc (.cells #[.string { data := #[] }, .string { data := #[] }, .string { data := #[] }, .string { data := #[] }, .string { data := #[] }, .bool false, .bool false, .string { data := #[] }, .string { data := #[] }, .slice none 0 0, .slice none 0 0, .slice none 0 0, .slice none 0 0] 43)
  have hblk2 := Blk.new (w.alloc (.cells (fileCells f (.slice Ac f.cons.length cc) (.slice Ai f.imps.length ci) (.slice Ae f.embs.length ce) (.slice Ad f.dirs.length cd)).toArray 56)) 43 #[.string { data := #[] }, .string { data := #[] }, .string { data := #[] }, .string { data := #[] }, .string { data := #[] }, .bool false, .bool false, .string { data := #[] }, .string { data := #[] }, .slice none 0 0, .slice none 0 0, .slice none 0 0, .slice none 0 0]
  rw [World.size_alloc] at hblk2
  rw [← HW0] at hblk1 hblk2
  have hsz0 : W0.heap.size = w.heap.size + 2 := by rw [HW0]; simp
  have hbel0 : Below w.heap.size w W0 := by rw [HW0]; exact ((Below.refl _ _).alloc (Nat.le_refl _) _).alloc (by simp) _
  have HS0 := Lib.hid (show ∀ j, W0.cell? ⟨w.heap.size, j, none⟩ = (#[.string f.err, .string f.perr, .string f.name, .string f.syn, .string f.pkg, .bool f.ign, .bool f.bin, .string f.cgo, .string f.con, .slice Ac f.cons.length cc, .slice Ai f.imps.length ci, .slice Ae f.embs.length ce, .slice Ad f.dirs.length cd] : Array Value)[j]? from hblk1.cell)
  have HS1 : Hid (∀ j, W0.drew.cell? ⟨w.heap.size, j, none⟩ = (#[.string f.err, .string f.perr, .string f.name, .string f.syn, .string f.pkg, .bool f.ign, .bool f.bin, .string f.cgo, .string f.con, .slice Ac f.cons.length cc, .slice Ai f.imps.length ci, .slice Ae f.embs.length ce, .slice Ad f.dirs.length cd] : Array Value)[j]?) := Lib.hid HS0.out
  have HW := Lib.hid HW0
  have HB2 := Lib.hid hblk2
  clear HW0 hblk1 hblk2
  go_enter Tryz.func30, Tryz.ntmps30
  go_wp2_with fail
  rw [show (w.alloc (.cells (fileCells f (.slice Ac f.cons.length cc) (.slice Ai f.imps.length ci) (.slice Ae f.embs.length ce) (.slice Ad f.dirs.length cd)).toArray 56)).alloc (.cells #[.string { data := #[] }, .string { data := #[] }, .string { data := #[] }, .string { data := #[] }, .string { data := #[] }, .bool false, .bool false, .string { data := #[] }, .string { data := #[] }, .slice none 0 0, .slice none 0 0, .slice none 0 0, .slice none 0 0] 43) = W0 from HW.out.symm]
  go_region_held3 (fun W => ∀ j, W.cell? ⟨w.heap.size, j, none⟩ = (#[.string f.err, .string f.perr, .string f.name, .string f.syn, .string f.pkg, .bool f.ign, .bool f.bin, .string f.cgo, .string f.con, .slice Ac f.cons.length cc, .slice Ai f.imps.length ci, .slice Ae f.embs.length ce, .slice Ad f.dirs.length cd] : Array Value)[j]?) (first | with_reducible exact HS1.out | (with_reducible refine keepSet (by simp) ?_; (repeat (with_reducible refine keepSet (by simp) ?_)); with_reducible assumption) | with_reducible exact keepCells (hbD.block _ (by omega)) (by assumption) | with_reducible exact keepCells (hbE.block _ (by omega)) (by assumption) | with_reducible exact keepCells (hbI.block _ (by omega)) (by assumption) | with_reducible exact keepCells (hgA.block _ (by simp; omega) (by simp [Value.ownBlock])) (by assumption) | with_reducible exact keepCells (((Below.refl W0.heap.size W0).drew.alloc (Nat.le_refl _) (.cells #[] 9)).block _ (by omega)) HS0.out)
    (first
      | (refine step_append_any _ (by rfl) (.tmp 21) (.tmp 23) _ (by rfl) w.heap.size 9 i0 _ 1 16 Tryz.underlying40 hi0 hz0 hz1 hz2 (by rfl) (by decide) (.slice (some ⟨w.heap.size + 2, 0, none⟩) 0 0) 0 [] (by rfl) (own_void _ _ _ _ hsz0 (by omega)) _ Ac f.cons.length cc (f.cons.map Value.string) (by rfl) (HVC.out _ (hbel0.drew.alloc (by simp; omega) _)) (texts_one _) (by unfold maxLen; omega) (by omega) (by simp; omega) ?_; intro vA wA hownA hgA hatA; simp only [Nat.zero_add, List.nil_append] at hownA; have hbelA := (hbel0.drew.alloc (by simp; omega) (.cells #[] 9)).grown hgA (by simp; omega) (by intro k hk; simp [Value.ownBlock] at hk; omega); have hszA : w.heap.size + 3 ≤ wA.heap.size := (by have := hgA.size; simp at this; omega); have hbkA := (HB2.out.drew.alloc (.cells #[] 9)).grown hgA (by simp [Value.ownBlock]); obtain ⟨AA, cA, rfl⟩ := own_form' hownA)
      | (go_at_call 57; refine (GD.out _ hbelE).mono ?_; rintro e wD ⟨AD, cD, rfl, hownD, hbD⟩; have hbelD := hbelE.trans (hbD.mono hbelE.size); have hszD := hbD.size; have hbkD := hbkE.below hbD hbkE.lt; have q0 := hbkD.cell 0; have r0 := hbkD.frozen 0; have q1 := hbkD.cell 1; have r1 := hbkD.frozen 1; have q2 := hbkD.cell 2; have r2 := hbkD.frozen 2; have q3 := hbkD.cell 3; have r3 := hbkD.frozen 3; have q4 := hbkD.cell 4; have r4 := hbkD.frozen 4; have q5 := hbkD.cell 5; have r5 := hbkD.frozen 5; have q6 := hbkD.cell 6; have r6 := hbkD.frozen 6; have q7 := hbkD.cell 7; have r7 := hbkD.frozen 7; have q8 := hbkD.cell 8; have r8 := hbkD.frozen 8; have q9 := hbkD.cell 9; have r9 := hbkD.frozen 9; have q10 := hbkD.cell 10; have r10 := hbkD.frozen 10; have q11 := hbkD.cell 11; have r11 := hbkD.frozen 11; have q12 := hbkD.cell 12; have r12 := hbkD.frozen 12)
      | (go_at_call 57; refine (GE'.out _ hbelI).mono ?_; rintro e wE ⟨AE, cE, rfl, hownE, hbE⟩; have hbelE := hbelI.trans (hbE.mono hbelI.size); have hszE := hbE.size; have hbkE := hbkI.below hbE hbkI.lt)
      | (go_at_call 57; refine (GI.out _ hbelA).mono ?_; rintro e wI ⟨AI, cI, rfl, hownI, hbI⟩; have hbelI := hbelA.trans (hbI.mono hbelA.size); have hszI := hbI.size; have hbkI := hbkA.below hbI hbkA.lt))
  have E := tf_end w.heap.size (w.heap.size + 1) f _ rfl w wA wI wE wD AA AI AE AD cA cI cE cD hbkD hbkA (by omega) hownA hownI hbI hownE hbE hownD hbD hbelD
  have HE := Lib.hid E
  clear E hownA hownI hownE hownD hbI hbE hbD hbkA hbkI hbkE hbkD hbelA hbelI hbelE hbelD
  go_wp2_with fail
  refine bodyPost_ret (results_cell 2 43 rfl (w.heap.size + 1) _ rfl _ Tryz.underlying43 rfl (by kernel_rfl) HE.out.2.2.range) rfl ?_
  exact ⟨_, rfl, HE.out.1, HE.out.2.1⟩
end
end Go.Proofs.YtanfimeajalffaaGreatDoor
