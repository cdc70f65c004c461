/-
  The law's arguments, opened: a list of packages that can be read lies in memory as data. No condition: lemmas alone.
-/
import Derived.Test.YtanfimeajalffaaGreatDoorGE
import Derived.Deep.Slices
import Derived.ChangeArms
import Derived.ChangeSame
import Derived.DataReads
namespace Go.Proofs.YtanfimeajalffaaGreatDoor
open Go.RowKit Go.ChangeShapes Go.WideShapes

theorem exists_list {γ : Type} {Q : Nat → γ → Prop} : ∀ n, (∀ i, i < n → ∃ z, Q i z) → ∃ l : List γ, l.length = n ∧ ∀ i z, l[i]? = some z → Q i z
  | 0, _ => ⟨[], rfl, fun i z h => by simp at h⟩
  | n + 1, h => by
    obtain ⟨l, hl, hq⟩ := exists_list n fun i hi => h i (by omega)
    obtain ⟨z, hz⟩ := h n (by omega)
    refine ⟨l ++ [z], by simp [hl], fun i y hy => ?_⟩
    by_cases hi : i < l.length
    · rw [List.getElem?_append_left hi] at hy
      exact hq i y hy
    · rw [List.getElem?_append_right (by omega)] at hy
      have h0 := (List.getElem?_eq_some_iff.1 hy).1
      simp at h0
      have e : i = n := by omega
      subst e
      rw [show i - l.length = 0 by omega] at hy
      simp at hy
      exact hy ▸ hz

section
variable {H : Type} {enc : TypeId × Value → H} {W : World} {α : Type}

theorem open_list (size : Nat) (R : List Value → α → Prop) {t e : TypeId} {fuel : Nat} {cs : List Value} {x : DataW H × List MemPlace} (ht : Tryz.prog.underlying t = some (.slice e)) (hC : Tryz.prog.cellsOf e = size) (hs : 0 < size)
    (hel : ∀ n cs y, DataW.trod enc Tryz.prog W 0 (fun _ => true) true n e cs = some y → cs.length = size → ∃ a : α, R cs a) (h : DataW.trod enc Tryz.prog W 0 (fun _ => true) true fuel t cs = some x) :
    ∃ (v : Value) (xs : List α), cs = [v] ∧ xs.length ≤ 9223372036854775807 ∧ ListAt W W.heap.size size R v xs := by
  rcases Go.Deep.open_slice ht h with ⟨rfl, _⟩ | ⟨a, len, cap, m, n, D, Pl, rfl, _, hl, hm, hmm, _, hi⟩
  · exact ⟨_, [], rfl, by simp, none, 0, [], rfl, rfl, (fun cs h => by cases h), Reads.none_, (fun i cs x h => by simp at h)⟩
  · rw [hC] at hi
    obtain ⟨l, hll, hq⟩ := exists_list (γ := List Value × α) (Q := fun i z => W.cells? 0 (a.add (i * size)) size = some z.1 ∧ z.1.length = size ∧ R z.1 z.2) len (fun i hil => by
      have him : i < m := by rw [hmm]; simp; omega
      obtain ⟨cs', hc, htr⟩ := hi i him
      obtain ⟨_, hcl, _⟩ := World.cells?_some hc
      obtain ⟨y, hy⟩ := hel _ _ _ htr hcl
      exact ⟨(cs', y), hc, hcl, hy⟩)
    have hcap : cap ≤ 9223372036854775807 := by unfold maxLen at hm; omega
    refine ⟨_, l.map (·.2), rfl, by simp [hll]; omega, some a, cap, l.map (·.1), by simp [hll], by simp, ?_, ?_, ?_⟩
    · intro cs hcs
      obtain ⟨z, hz, rfl⟩ := List.mem_map.1 hcs
      obtain ⟨i, hi', hz'⟩ := List.getElem_of_mem hz
      exact (hq i z (by rw [← hz']; exact List.getElem?_eq_getElem hi')).2.1
    · have hsz : ∀ cs ∈ l.map (·.1), cs.length = size := by
        intro cs hcs
        obtain ⟨z, hz, rfl⟩ := List.mem_map.1 hcs
        obtain ⟨i, hi', hz'⟩ := List.getElem_of_mem hz
        exact (hq i z (by rw [← hz']; exact List.getElem?_eq_getElem hi')).2.1
      have hfl := flat_length size _ hsz
      rw [List.length_map, hll] at hfl
      have hcell : ∀ j u, (l.map (·.1)).flatten[j]? = some u → W.cell? (a.add j) = some u := by
        intro j u hj
        have hjl : j < len * size := by
          have := (List.getElem?_eq_some_iff.1 hj).1
          omega
        have hdl : j / size < len := (Nat.div_lt_iff_lt_mul hs).2 hjl
        have hml : j % size < size := Nat.mod_lt _ hs
        have hg := flat_get size (l.map (·.1)) hsz (j / size) (by simp [hll]; exact hdl) (j % size) hml
        have hdm : j / size * size + j % size = j := by rw [Nat.mul_comm]; exact Nat.div_add_mod j size
        rw [hdm, hj] at hg
        have hlz : l[j / size]? = some l[j / size] := List.getElem?_eq_getElem (by omega)
        have h1 := hq _ _ hlz
        obtain ⟨_, _, hat⟩ := World.cells?_some h1.1
        have h2 := hat (j % size) hml
        rw [add_of_add, hdm] at h2
        rw [h2, hg]
        simp
      refine ⟨by rw [List.length_map, hll]; exact hfl, fun hn => ?_⟩
      rw [List.length_map, hll] at hn
      have h0 : 0 < (l.map (·.1)).flatten.length := by rw [hfl]; exact Nat.mul_pos hn hs
      have hc0 := hcell 0 _ (List.getElem?_eq_getElem h0)
      have hbl := World.block_lt_of_cell? W _ hc0
      rw [block_of_add] at hbl
      exact ⟨a, rfl, hbl, hcell⟩
    · intro i cs x hcs hx
      rw [List.getElem?_map] at hcs hx
      cases hz : l[i]? with
      | none => rw [hz] at hcs; cases hcs
      | some z =>
        rw [hz] at hcs hx
        simp at hcs hx
        have := (hq i z hz).2.2
        rw [hcs, hx] at this
        exact this

theorem c9 : Tryz.prog.cellsOf 9 = 1 := by kernel_rfl
theorem c4 : Tryz.prog.cellsOf 4 = 1 := by kernel_rfl
theorem c3 : Tryz.prog.cellsOf 3 = 1 := by kernel_rfl
theorem cTexts : Tryz.prog.cellsOf 40 = 1 := by kernel_rfl
theorem cDirs : Tryz.prog.cellsOf 41 = 1 := by kernel_rfl
theorem cFiles : Tryz.prog.cellsOf 30 = 1 := by kernel_rfl
theorem cPos : Tryz.prog.cellsOf 99 = 4 := by kernel_rfl
theorem cDir : Tryz.prog.cellsOf 101 = 5 := by kernel_rfl
theorem cFile : Tryz.prog.cellsOf 43 = 13 := by kernel_rfl
theorem cPkg : Tryz.prog.cellsOf 32 = 3 := by kernel_rfl

/-- Lists whose elements' cells are told by a function. -/
theorem flat_of_fn {β : Type} {f : β → List Value} {size : Nat} {w : World} {B : Nat} {v : Value} {xs : List β} (h : ListAt w B size (fun cs x => cs = f x) v xs) : ∃ A c, v = .slice A xs.length c ∧ Reads w B size A xs.length (xs.flatMap f) := by
  obtain ⟨A, c, css, h1, h2, h3, h4, h5⟩ := h
  have e : css = xs.map f := by
    refine List.ext_getElem (by simp [h2]) fun i a b => ?_
    have hb : i < xs.length := by omega
    have := h5 i _ _ (List.getElem?_eq_getElem a) (List.getElem?_eq_getElem hb)
    rw [this, List.getElem_map]
  rw [e, ← List.flatMap_def] at h4
  exact ⟨A, c, h1, h4⟩

theorem flat_single {β : Type} (f : β → Value) (xs : List β) : xs.flatMap (fun s => [f s]) = xs.map f := by
  induction xs with
  | nil => rfl
  | cons a r ih =>
    rw [List.flatMap_cons, ih]
    rfl

theorem open_texts {fuel : Nat} {cs : List Value} {x : DataW H × List MemPlace} (h : DataW.trod enc Tryz.prog W 0 (fun _ => true) true fuel 40 cs = some x) : ∃ (v : Value) (ss : List ByteArray), cs = [v] ∧ ss.length ≤ 9223372036854775807 ∧ StrsAt W W.heap.size v ss := by
  obtain ⟨v, xs, e, hl, hL⟩ := open_list (α := ByteArray) 1 (fun cs s => cs = [.string s]) Tryz.underlying40 c9 (by omega) (fun n cs y h _ => by
    obtain ⟨s, hs, _⟩ := DataW.trod_string Tryz.underlying9 h
    exact ⟨s, hs⟩) h
  obtain ⟨A, c, e2, hr⟩ := flat_of_fn (f := fun s => [Value.string s]) hL
  refine ⟨v, xs, e, hl, A, c, e2, ?_⟩
  rw [flat_single] at hr
  exact hr

set_option maxRecDepth 100000 in
theorem open_pos {n : Nat} {cs : List Value} {x : DataW H × List MemPlace} (h : DataW.trod enc Tryz.prog W 0 (fun _ => true) true n 99 cs = some x) : ∃ p : PosD, cs = [.string p.fn, .int .i64 p.o, .int .i64 p.l, .int .i64 p.c] := by
  obtain ⟨xs, n, _, _, hl, hlen, hf⟩ := DataW.trod_struct Tryz.underlying99 h
  rw [cPos] at hl
  match cs, hl, xs, hlen with
  | [v0, v1, v2, v3], _, [y0, y1, y2, y3], _ =>
    have g0 : DataW.trod enc Tryz.prog W 0 (fun _ => true) true n 9 [v0] = some y0 := by simpa [c9] using hf 0 _ rfl
    have g1 : DataW.trod enc Tryz.prog W 0 (fun _ => true) true n 3 [v1] = some y1 := by simpa [c3] using hf 1 _ rfl
    have g2 : DataW.trod enc Tryz.prog W 0 (fun _ => true) true n 3 [v2] = some y2 := by simpa [c3] using hf 2 _ rfl
    have g3 : DataW.trod enc Tryz.prog W 0 (fun _ => true) true n 3 [v3] = some y3 := by simpa [c3] using hf 3 _ rfl
    obtain ⟨s, e0, _⟩ := DataW.trod_string Tryz.underlying9 g0
    obtain ⟨a, e1, _⟩ := DataW.trod_int Tryz.underlying3 g1
    obtain ⟨b, e2, _⟩ := DataW.trod_int Tryz.underlying3 g2
    obtain ⟨c, e3, _⟩ := DataW.trod_int Tryz.underlying3 g3
    simp at e0 e1 e2 e3
    exact ⟨⟨s, a, b, c⟩, by rw [e0, e1, e2, e3]⟩
set_option maxRecDepth 100000 in
theorem open_dir {n : Nat} {cs : List Value} {x : DataW H × List MemPlace} (h : DataW.trod enc Tryz.prog W 0 (fun _ => true) true n 101 cs = some x) : ∃ d : DirD, cs = dirCells d := by
  obtain ⟨xs, n, _, _, hl, hlen, hf⟩ := DataW.trod_struct Tryz.underlying101 h
  rw [cDir] at hl
  match cs, hl, xs, hlen with
  | [v0, v1, v2, v3, v4], _, [y0, y1], _ =>
    have g0 : DataW.trod enc Tryz.prog W 0 (fun _ => true) true n 9 [v0] = some y0 := by simpa [c9] using hf 0 _ rfl
    have g1 : DataW.trod enc Tryz.prog W 0 (fun _ => true) true n 99 [v1, v2, v3, v4] = some y1 := by simpa [cPos] using hf 1 _ rfl
    obtain ⟨s, e0, _⟩ := DataW.trod_string Tryz.underlying9 g0
    obtain ⟨p, e1⟩ := open_pos g1
    simp at e0 e1
    obtain ⟨e1, e2, e3, e4⟩ := e1
    exact ⟨⟨s, p⟩, by rw [e0, e1, e2, e3, e4]; rfl⟩
theorem open_dirs {fuel : Nat} {cs : List Value} {x : DataW H × List MemPlace} (h : DataW.trod enc Tryz.prog W 0 (fun _ => true) true fuel 41 cs = some x) : ∃ (v : Value) (ds : List DirD), cs = [v] ∧ ds.length ≤ 9223372036854775807 ∧ DirsAt W W.heap.size v ds := by
  obtain ⟨v, xs, e, hl, hL⟩ := open_list (α := DirD) 5 (fun cs d => cs = dirCells d) Tryz.underlying41 cDir (by omega) (fun n cs y h _ => open_dir h) h
  obtain ⟨A, c, e2, hr⟩ := flat_of_fn (f := dirCells) hL
  exact ⟨v, xs, e, hl, A, c, e2, hr⟩
set_option maxRecDepth 100000 in
theorem open_file {n : Nat} {cs : List Value} {x : DataW H × List MemPlace} (h : DataW.trod enc Tryz.prog W 0 (fun _ => true) true n 43 cs = some x) : ∃ f : FileD, FileR W W.heap.size cs f ∧ f.Wide := by
  obtain ⟨xs, n, _, _, hl, hlen, hf⟩ := DataW.trod_struct Tryz.underlying43 h
  rw [cFile] at hl
  match cs, hl, xs, hlen with
  | [v0, v1, v2, v3, v4, v5, v6, v7, v8, v9, v10, v11, v12], _, [y0, y1, y2, y3, y4, y5, y6, y7, y8, y9, y10, y11, y12], _ =>
    have g0 : DataW.trod enc Tryz.prog W 0 (fun _ => true) true n 9 [v0] = some y0 := by simpa [c9] using hf 0 _ rfl
    have g1 : DataW.trod enc Tryz.prog W 0 (fun _ => true) true n 9 [v1] = some y1 := by simpa [c9] using hf 1 _ rfl
    have g2 : DataW.trod enc Tryz.prog W 0 (fun _ => true) true n 9 [v2] = some y2 := by simpa [c9] using hf 2 _ rfl
    have g3 : DataW.trod enc Tryz.prog W 0 (fun _ => true) true n 9 [v3] = some y3 := by simpa [c9] using hf 3 _ rfl
    have g4 : DataW.trod enc Tryz.prog W 0 (fun _ => true) true n 9 [v4] = some y4 := by simpa [c9] using hf 4 _ rfl
    have g5 : DataW.trod enc Tryz.prog W 0 (fun _ => true) true n 4 [v5] = some y5 := by simpa [c4] using hf 5 _ rfl
    have g6 : DataW.trod enc Tryz.prog W 0 (fun _ => true) true n 4 [v6] = some y6 := by simpa [c4] using hf 6 _ rfl
    have g7 : DataW.trod enc Tryz.prog W 0 (fun _ => true) true n 9 [v7] = some y7 := by simpa [c9] using hf 7 _ rfl
    have g8 : DataW.trod enc Tryz.prog W 0 (fun _ => true) true n 9 [v8] = some y8 := by simpa [c9] using hf 8 _ rfl
    have g9 : DataW.trod enc Tryz.prog W 0 (fun _ => true) true n 40 [v9] = some y9 := by simpa [cTexts] using hf 9 _ rfl
    have g10 : DataW.trod enc Tryz.prog W 0 (fun _ => true) true n 41 [v10] = some y10 := by simpa [cDirs] using hf 10 _ rfl
    have g11 : DataW.trod enc Tryz.prog W 0 (fun _ => true) true n 41 [v11] = some y11 := by simpa [cDirs] using hf 11 _ rfl
    have g12 : DataW.trod enc Tryz.prog W 0 (fun _ => true) true n 41 [v12] = some y12 := by simpa [cDirs] using hf 12 _ rfl
    obtain ⟨s0, e0, _⟩ := DataW.trod_string Tryz.underlying9 g0
    obtain ⟨s1, e1, _⟩ := DataW.trod_string Tryz.underlying9 g1
    obtain ⟨s2, e2, _⟩ := DataW.trod_string Tryz.underlying9 g2
    obtain ⟨s3, e3, _⟩ := DataW.trod_string Tryz.underlying9 g3
    obtain ⟨s4, e4, _⟩ := DataW.trod_string Tryz.underlying9 g4
    obtain ⟨s5, e5, _⟩ := DataW.trod_bool Tryz.underlying4 g5
    obtain ⟨s6, e6, _⟩ := DataW.trod_bool Tryz.underlying4 g6
    obtain ⟨s7, e7, _⟩ := DataW.trod_string Tryz.underlying9 g7
    obtain ⟨s8, e8, _⟩ := DataW.trod_string Tryz.underlying9 g8
    obtain ⟨z9, ss, e9, l9, h9⟩ := open_texts g9
    obtain ⟨z10, x10, e10, l10, h10⟩ := open_dirs g10
    obtain ⟨z11, x11, e11, l11, h11⟩ := open_dirs g11
    obtain ⟨z12, x12, e12, l12, h12⟩ := open_dirs g12
    simp at e0 e1 e2 e3 e4 e5 e6 e7 e8 e9 e10 e11 e12
    refine ⟨⟨s0, s1, s2, s3, s4, s5, s6, s7, s8, ss, x10, x11, x12⟩, ⟨z9, z10, z11, z12, ?_, h9, h10, h11, h12⟩, ⟨l9, l10, l11, l12⟩⟩
    rw [e0, e1, e2, e3, e4, e5, e6, e7, e8, e9, e10, e11, e12]
    rfl
theorem open_files {fuel : Nat} {cs : List Value} {x : DataW H × List MemPlace} (h : DataW.trod enc Tryz.prog W 0 (fun _ => true) true fuel 30 cs = some x) : ∃ (v : Value) (fs : List FileD), cs = [v] ∧ fs.length ≤ 9223372036854775807 ∧ ListAt W W.heap.size 13 (fun cs f => FileR W W.heap.size cs f ∧ f.Wide) v fs :=
  open_list (α := FileD) 13 (fun cs f => FileR W W.heap.size cs f ∧ f.Wide) Tryz.underlying30 cFile (by omega) (fun n cs y h _ => open_file h) h
theorem list_all {β : Type} {Q : β → Prop} {w : World} {B size : Nat} {R : List Value → β → Prop} {v : Value} {xs : List β} (h : ListAt w B size (fun cs x => R cs x ∧ Q x) v xs) : ∀ x ∈ xs, Q x := by
  obtain ⟨A, c, css, h1, h2, h3, h4, h5⟩ := h
  intro x hx
  obtain ⟨i, hi, rfl⟩ := List.getElem_of_mem hx
  exact (h5 i _ _ (List.getElem?_eq_getElem (by omega)) (List.getElem?_eq_getElem hi)).2
set_option maxRecDepth 100000 in
theorem open_pkg {n : Nat} {cs : List Value} {x : DataW H × List MemPlace} (h : DataW.trod enc Tryz.prog W 0 (fun _ => true) true n 32 cs = some x) : ∃ p : PkgD, PkgR W W.heap.size cs p ∧ p.Wide := by
  obtain ⟨xs, n, _, _, hl, hlen, hf⟩ := DataW.trod_struct Tryz.underlying32 h
  rw [cPkg] at hl
  match cs, hl, xs, hlen with
  | [v0, v1, v2], _, [y0, y1, y2], _ =>
    have g0 : DataW.trod enc Tryz.prog W 0 (fun _ => true) true n 9 [v0] = some y0 := by simpa [c9] using hf 0 _ rfl
    have g1 : DataW.trod enc Tryz.prog W 0 (fun _ => true) true n 9 [v1] = some y1 := by simpa [c9] using hf 1 _ rfl
    have g2 : DataW.trod enc Tryz.prog W 0 (fun _ => true) true n 30 [v2] = some y2 := by simpa [cFiles] using hf 2 _ rfl
    obtain ⟨s0, e0, _⟩ := DataW.trod_string Tryz.underlying9 g0
    obtain ⟨s1, e1, _⟩ := DataW.trod_string Tryz.underlying9 g1
    obtain ⟨z, fs, e2, hl2, hL⟩ := open_files g2
    simp at e0 e1 e2
    exact ⟨⟨s0, s1, fs⟩, ⟨z, by rw [e0, e1, e2], hL.imp fun _ _ h => h.1⟩, ⟨hl2, list_all hL⟩⟩
/-- A list of packages. -/
theorem open_pkgs {fuel : Nat} {cs : List Value} {x : DataW H × List MemPlace} (h : DataW.trod enc Tryz.prog W 0 (fun _ => true) true fuel 22 cs = some x) : ∃ (v : Value) (ps : List PkgD), cs = [v] ∧ ps.length ≤ 9223372036854775807 ∧ (∀ p ∈ ps, p.Wide) ∧ PkgsAt W W.heap.size v ps := by
  obtain ⟨v, ps, e, hl, hL⟩ := open_list (α := PkgD) 3 (fun cs p => PkgR W W.heap.size cs p ∧ p.Wide) Tryz.underlying22 cPkg (by omega) (fun n cs y h _ => open_pkg h) h
  exact ⟨v, ps, e, hl, list_all hL, hL.imp fun _ _ h => h.1⟩
end
end Go.Proofs.YtanfimeajalffaaGreatDoor
