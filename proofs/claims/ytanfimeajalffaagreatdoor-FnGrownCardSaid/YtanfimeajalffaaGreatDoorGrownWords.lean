/-
  Words for FnGrown: two operations of a drawn region that may come up in either order; parts of a slice. No condition: lemmas alone.
-/
import Derived.Test.YtanfimeajalffaaGreatDoorLawFindAll
namespace Go.Proofs.YtanfimeajalffaaGreatDoor
open Go.RowKit

section
variable {P : Program} {ops : Array Oper} {Q : Exit → Act → World → Prop} {md : Region.Mode} {S : World → Prop} {s : Nat}
/-- Two operations that may come up, in either order. -/
theorem wpAnyM_two {i j : Nat} {oi oj : Oper} {fuel : Nat} {listed : Array Bool} {a : Act} {w : World} (hi : ops[i]? = some oi) (hj : ops[j]? = some oj) (hr : Region.ready md ops listed = [i, j])
    (h1 : ∀ K : Act → World → Prop, Shut (∀ a w, (i = s ∨ S w) → wpAnyM P md ops Q S s fuel (listed.setIfInBounds i true) a w → K a w) → if Region.wanted oi (yielded ops a.tmps) = true then Oper.wp P oi a w K Q else K (a.put oi.dst undef) w)
    (h2 : ∀ K : Act → World → Prop, Shut (∀ a w, (j = s ∨ S w) → wpAnyM P md ops Q S s fuel (listed.setIfInBounds j true) a w → K a w) → if Region.wanted oj (yielded ops a.tmps) = true then Oper.wp P oj a w K Q else K (a.put oj.dst undef) w) :
    wpAnyM P md ops Q S s (fuel + 1) listed a w := by
  refine ⟨fun h0 => (by rw [hr] at h0; cases h0), fun m hm => ?_⟩
  rw [hr] at hm
  simp at hm
  rcases hm with rfl | rfl
  · exact wpOp_step hi (fun K hK => h1 K (fun a w x y => hK a w ⟨x, y⟩))
  · exact wpOp_step hj (fun K hK => h2 K (fun a w x y => hK a w ⟨x, y⟩))
end

theorem reads_blk {w : World} {g : Nat} {t : TypeId} {cs : Array Value} (h : Blk w g t cs) (n size : Nat) (hn : cs.size = n * size) : Reads w w.heap.size size (some ⟨g, 0, none⟩) n cs.toList := by
  refine ⟨by simpa using hn, fun _ => ⟨_, rfl, h.lt, fun j u hj => ?_⟩⟩
  have hadd : (⟨g, 0, none⟩ : Addr).add j = ⟨g, j, none⟩ := by unfold Addr.add; split <;> simp_all
  rw [hadd, h.cell]
  simpa using hj
theorem Reads.front {w : World} {B size n k : Nat} {A : Option Addr} {xs : List Value} (h : Reads w B size A n xs) (hk : k ≤ n) : Reads w B size A k (xs.take (k * size)) := by
  refine ⟨?_, fun h0 => ?_⟩
  · rw [List.length_take, h.1, Nat.min_eq_left (Nat.mul_le_mul_right _ hk)]
  · obtain ⟨ad, e, hb, hc⟩ := h.2 (by omega)
    exact ⟨ad, e, hb, fun j u hu => hc j u (by
      rw [List.getElem?_take] at hu
      split at hu
      · exact hu
      · cases hu)⟩
theorem flat_cut {α : Type} (n : Nat) : ∀ (css : List (List α)) (k : Nat), (∀ cs ∈ css, cs.length = n) → k ≤ css.length → css.flatten.take (k * n) = (css.take k).flatten ∧ css.flatten.drop (k * n) = (css.drop k).flatten
  | _, 0, _, _ => by simp
  | [], k + 1, _, h => by simp at h
  | x :: r, k + 1, h, hk => by
    have hx := h x (List.mem_cons_self ..)
    obtain ⟨h1, h2⟩ := flat_cut n r k (fun cs hc => h cs (List.mem_cons_of_mem _ hc)) (by simpa using hk)
    have e : (k + 1) * n = x.length + k * n := by rw [hx, Nat.add_mul]; omega
    rw [List.flatten_cons, e]
    constructor
    · rw [List.take_length_add_append, h1]
      rfl
    · rw [List.drop_length_add_append, h2]
      rfl
theorem PkgR.one {w : World} {B : Nat} {cs : List Value} {p : PkgD} (h : PkgR w B cs p) : ∀ u ∈ cs, u.oneCell' = true := by
  obtain ⟨vf, rfl, hf⟩ := h
  obtain ⟨A, c, rfl⟩ := ListAt.form hf
  intro u hu
  simp only [List.mem_cons, List.not_mem_nil, or_false] at hu
  rcases hu with rfl | rfl | rfl <;> rfl
theorem pkgs_one {w : World} {B : Nat} {css : List (List Value)} {xs : List PkgD} (_h3 : ∀ cs ∈ css, cs.length = 3) (hl : css.length = xs.length) (hR : ∀ (i : Nat) (cs : List Value) (x : PkgD), css[i]? = some cs → xs[i]? = some x → PkgR w B cs x) : ∀ u ∈ css.flatten, u.oneCell' = true := by
  intro u hu
  obtain ⟨cs, hcs, hu⟩ := List.mem_flatten.1 hu
  obtain ⟨i, hi, rfl⟩ := List.getElem_of_mem hcs
  exact PkgR.one (hR i _ _ (List.getElem?_eq_getElem hi) (List.getElem?_eq_getElem (by omega))) u hu
/-- Packages of a row of the call's own: those of a list ahead of a place, one more, those behind it. -/
theorem pkgs_whole {w : World} {B base : Nat} {v : Value} {css : List (List Value)} {ms : List Value} {xs : List PkgD} {p : PkgD} {k : Nat} (ho : w.ownsRow base 32 3 v (xs.length + 1) (css.flatten.take (k * 3) ++ ms ++ css.flatten.drop (k * 3))) (hl : css.length = xs.length) (h3 : ∀ cs ∈ css, cs.length = 3)
    (hR : ∀ (i : Nat) (cs : List Value) (x : PkgD), css[i]? = some cs → xs[i]? = some x → PkgR w B cs x) (hm : PkgR w B ms p) (hms : ms.length = 3) (hk : k ≤ xs.length) (hB : B ≤ w.heap.size) : PkgsAt w w.heap.size v (xs.take k ++ p :: xs.drop k) := by
  have hlen : (xs.take k ++ p :: xs.drop k).length = xs.length + 1 := by simp; omega
  obtain ⟨A, c, rfl⟩ := own_form' ho
  obtain ⟨e1, e2⟩ := flat_cut 3 css k h3 (by omega)
  have hfl : css.flatten.take (k * 3) ++ ms ++ css.flatten.drop (k * 3) = (css.take k ++ ms :: css.drop k).flatten := by
    rw [e1, e2]
    simp
  rw [hfl] at ho
  refine ⟨A, c, css.take k ++ ms :: css.drop k, by rw [hlen], by rw [hlen]; simp; omega, fun cs hc => ?_, by rw [hlen]; exact Reads.of_own ho, fun i cs x hc hx => ?_⟩
  · rcases List.mem_append.1 hc with h | h
    · exact h3 cs (List.mem_of_mem_take h)
    · rcases List.mem_cons.1 h with h | h
      · rw [h]; exact hms
      · exact h3 cs (List.mem_of_mem_drop h)
  · have hgoal : PkgR w B cs x := by
      have l1 : (css.take k).length = k := List.length_take_of_le (by omega)
      have l2 : (xs.take k).length = k := List.length_take_of_le hk
      rcases Nat.lt_trichotomy i k with h | h | h
      · rw [List.getElem?_append_left (by omega), List.getElem?_take_of_lt h] at hc hx
        exact hR i cs x hc hx
      · subst h
        rw [List.getElem?_append_right (by omega), l1, Nat.sub_self] at hc
        rw [List.getElem?_append_right (by omega), l2, Nat.sub_self] at hx
        simp at hc hx
        subst hc
        subst hx
        exact hm
      · rw [List.getElem?_append_right (by omega), l1] at hc
        rw [List.getElem?_append_right (by omega), l2] at hx
        obtain ⟨m, rfl⟩ : ∃ m, i = k + 1 + m := ⟨i - (k + 1), by omega⟩
        rw [show k + 1 + m - k = m + 1 from by omega, List.getElem?_cons_succ, List.getElem?_drop] at hc hx
        exact hR (k + m) cs x hc hx
    exact hgoal.more hB

theorem head_run (A : Option Addr) (n c k : Nat) (hk : k ≤ c) (W : World) :
    (Instr.slice 22 (.slice A n c) none (some (.int .i64 (k : Int))) none).run Tryz.prog W = .ok (.slice A k c) W := by
  have h0 : (0 : Int) ≤ (k : Int) := by omega
  have h1 : (k : Int) ≤ (c : Int) := by omega
  simp [go_sem, h0, h1, sliced]
theorem tail_run (A : Option Addr) (n c k : Nat) (hk : k ≤ n) (W : World) :
    (Instr.slice 22 (.slice A n c) (some (.int .i64 (k : Int))) none none).run Tryz.prog W = .ok (.slice (if c = k then A else A.map (·.add (k * 3))) (n - k) (c - k)) W := by
  have h0 : (0 : Int) ≤ (k : Int) := by omega
  have h1 : (k : Int) ≤ (n : Int) := by omega
  simp [go_sem, h0, h1, sliced]

set_option maxHeartbeats 2000000 in
set_option maxRecDepth 100000 in
theorem fits1_sound (B : Nat) (v : Value) (ps : List PkgD) (w : World) (hB : B ≤ w.heap.size) (hl : ps.length ≤ 9223372036854775807) (hw : ∀ p ∈ ps, p.Wide) (hd : PkgsAt w B v ps) : Calls Tryz.prog 7 #[v] w (Sound (ps.length ≤ 2147483647) w) := by
  obtain ⟨A, c, rfl⟩ := ListAt.form hd
  have HV := Lib.hid hd
  have HW := Lib.hid hw
  clear hd hw
  by_cases hbig : (2147483647 : Int) < (ps.length : Int)
  · go_enter Tryz.func7, Tryz.ntmps7
    go_wp2_with fail
    go_ret
    exact ⟨_, rfl, Below.refl _ _, fun h => (by cases h)⟩
  · go_enter Tryz.func7, Tryz.ntmps7
    go_wp2_with fail
    go_loopw [4, 10] (fun _ i wr => ∃ k : Nat, k ≤ ps.length ∧ i = .int .i64 k ∧ Below w.heap.size w wr) (fun _ i _ => ps.length - (intOf i).toNat)
    case atStart => exact ⟨0, Nat.zero_le _, rfl, Below.refl _ _⟩
    case round =>
      obtain ⟨k, hk, rfl, hF⟩ := hrel
      have hsz := hF.size
      by_cases hlt : k < ps.length
      · obtain ⟨gf, of, cs, rfl, hgf, _, hR, hcell⟩ := (PkgsAt.below HV.out (hF.mono hB)).get (by omega) k hlt
        have hwf := HW.out _ (List.getElem_mem hlt)
        generalize ps[k] = p at hR hwf
        have HC := Lib.hid (fun W (h : Below wr.heap.size wr W) => fits2_any B cs p W (Nat.le_trans (Nat.le_trans hB hsz) h.size) hwf (hR.below (h.mono (Nat.le_trans hB hsz))))
        obtain ⟨vf, rfl, hfs⟩ := hR
        obtain ⟨Af, cf, rfl⟩ := hfs.form
        have d0 : wr.cell? ⟨gf, of + k * 3, none⟩ = some (.string p.err) := hcell 0 _ rfl
        have d1 : wr.cell? ⟨gf, of + k * 3 + 1, none⟩ = some (.string p.dir) := hcell 1 _ rfl
        have d2 : wr.cell? ⟨gf, of + k * 3 + 2, none⟩ = some (.slice Af p.files.length cf) := hcell 2 _ rfl
        clear hcell hwf hfs
        go_wp2_with fail
        refine (HC.out _ ((Below.refl _ _).alloc (Nat.le_refl _) _)).mono ?_
        rintro e w1 ⟨b, rfl, hb1⟩
        have hF2 : Below w.heap.size w w1 := (hF.alloc hsz _).trans (hb1.mono (by simp; omega))
        clear d0 d1 d2 hb1
        cases b
        · go_wp2_with fail
          go_ret
          exact ⟨_, rfl, hF2, fun h => (by cases h)⟩
        · go_wp2_with fail
          go_roundw
          case rel => exact ⟨k + 1, by omega, by go_num, hF2⟩
          case measure => simp [intOf]; omega
      · go_wp2_with fail
        go_ret
        exact ⟨_, rfl, hF, fun _ => (by omega)⟩
end Go.Proofs.YtanfimeajalffaaGreatDoor
