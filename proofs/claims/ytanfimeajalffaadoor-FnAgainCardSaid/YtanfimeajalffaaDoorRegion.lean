/-
  A region that draws its order: what yields its value in every world that meets S is taken first, where nothing but the region's last operation breaks S. No program in sight.
-/
import Derived.Deep.RegionHeld3
import Derived.Maps.RangeWalk
namespace Go.Proofs.YtanfimeajalffaaDoor
open Go

section
variable {P : Program} {ops : Array Oper} {Q : Exit → Act → World → Prop} {md : Region.Mode} {S : World → Prop} {s : Nat}

/-- Whatever order is picked, and S holds behind each operation but number s. -/
def wpAnyM (P : Program) (md : Region.Mode) (ops : Array Oper) (Q : Exit → Act → World → Prop) (S : World → Prop) (s : Nat) : Nat → Array Bool → Act → World → Prop
  | 0, listed, a, w => Region.ready md ops listed = [] ∧ Q .normal a w
  | fuel + 1, listed, a, w =>
    (Region.ready md ops listed = [] → Q .normal a w) ∧
    ∀ i ∈ Region.ready md ops listed, wpOp P ops Q i (fun a' w' => (i = s ∨ S w') ∧ wpAnyM P md ops Q S s fuel (listed.setIfInBounds i true) a' w') a w

theorem wpAny_of_m : ∀ (fuel : Nat) (listed : Array Bool) (a : Act) (w : World), wpAnyM P md ops Q S s fuel listed a w → wpAny P md ops Q fuel listed a w
  | 0, _, _, _, h => h
  | fuel + 1, _, _, _, h => ⟨h.1, fun i hi => wpOp_mono (fun a' w' h' => wpAny_of_m fuel _ a' w' h'.2) (h.2 i hi)⟩

/-- Does operation s wait for operation i? -/
def waitsB (md : Region.Mode) (ops : Array Oper) (s i : Nat) : Bool := match ops[s]? with
  | some o => o.after.any fun e => Region.binds md e && e.on == i
  | none => true

theorem waits_listed {listed : Array Bool} {i : Nat} (hw : waitsB md ops s i = true) (hr : s ∈ Region.ready md ops listed) : listed.getD i false = true := by
  obtain ⟨_, o, ho, hall⟩ := mem_ready.1 hr
  unfold waitsB at hw
  rw [ho] at hw
  simp only [Array.any_eq_true, Bool.and_eq_true, beq_iff_eq] at hw
  obtain ⟨k, hk, hb, he⟩ := hw
  have := hall o.after[k] (Array.getElem_mem hk) hb
  rw [he] at this
  exact this

theorem wpAnyM_first {i : Nat} {oi : Oper} {v : Value} (hi : ops[i]? = some oi) (hsel : ∀ (j : Nat) (o : Oper) cs b, ops[j]? = some o → o.op ≠ .select cs b)
    (hQ : ∀ c a w, Q (.panic c) (a.put oi.dst v) w → Q (.panic c) a w) (hws : waitsB md ops s i = true) (his : i ≠ s) :
    ∀ (fuel : Nat) (listed : Array Bool) (a : Act) (w : World),
      (∀ j oj, ops[j]? = some oj → j ≠ i → listed.getD j true = false → (∀ e ∈ oj.after, Region.binds md e = true → e.on ≠ i) → oi.apart ops oj = true) →
      i ∈ Region.ready md ops listed → YieldsIf P ops S oi v a → S w →
      wpAnyM P md ops Q S s fuel (listed.setIfInBounds i true) (a.put oi.dst v) w → wpAnyM P md ops Q S s (fuel + 1) listed a w := by
  intro fuel
  induction fuel with
  | zero =>
    intro listed a w _ hr hy hS H
    refine ⟨fun h => (by rw [h] at hr; cases hr), fun j hj => ?_⟩
    by_cases hji : j = i
    · subst hji; exact hy.wpOp hi hS ⟨.inr hS, H⟩
    · have := ready_mono hj hji
      rw [H.1] at this
      cases this
  | succ fuel ih =>
    intro listed a w hfree hr hy hS H
    refine ⟨fun h => (by rw [h] at hr; cases hr), fun j hj => ?_⟩
    by_cases hji : j = i
    · subst hji; exact hy.wpOp hi hS ⟨.inr hS, H⟩
    · have h1 := H.2 j (ready_mono hj hji)
      obtain ⟨hjun, oj, hoj, hall⟩ := mem_ready.1 hj
      have h0 := (mem_ready.1 hr).1
      have hiun : listed.getD i false = false := by
        rcases Nat.lt_or_ge i listed.size with h' | h'
        · simp [h'] at h0 ⊢; exact h0
        · simp [Array.getElem?_eq_none h']
      have hjs : j ≠ s := fun e => by
        subst e
        rw [waits_listed hws hj] at hiun
        cases hiun
      have hnot : ∀ e ∈ oj.after, Region.binds md e = true → e.on ≠ i := fun e he hb heq => by
        have h1 := hall e he hb
        rw [heq, hiun] at h1
        cases h1
      have h2 := wpOp_putIf hoj (hfree j oj hoj hji hjun hnot) (fun cs b => hsel i oi cs b hi) (fun cs b => hsel j oj cs b hoj) hQ hy h1
      have hfree' : ∀ k ok, ops[k]? = some ok → k ≠ i → (listed.setIfInBounds j true).getD k true = false →
          (∀ e ∈ ok.after, Region.binds md e = true → e.on ≠ i) → oi.apart ops ok = true := fun k ok hk hki hun hno => by
        refine hfree k ok hk hki ?_ hno
        by_cases hjk : j = k
        · subst hjk; exact hjun
        · rw [getD_set_ne true hjk] at hun; exact hun
      refine wpOp_mono (fun a' w' h3 => ?_) h2
      have hS' : S w' := h3.2.1.resolve_left hjs
      refine ⟨h3.2.1, ih (listed.setIfInBounds j true) a' w' hfree' (ready_mono hr (Ne.symm hji)) h3.1 hS' ?_⟩
      rw [Array.setIfInBounds_comm _ _ hji]
      exact h3.2.2

theorem wpAnyM_take {i : Nat} {oi : Oper} {v : Value} {fuel : Nat} {listed : Array Bool} {a : Act} {w : World} (hi : ops[i]? = some oi)
    (hs : Region.noSelect ops = true) (hf : Region.free md ops listed i = true) (hr : (Region.ready md ops listed).contains i = true) (hws : waitsB md ops s i = true) (his : i ≠ s)
    (hQ : ∀ c a w, Q (.panic c) (a.put oi.dst v) w → Q (.panic c) a w) (hS : S w) (hy : YieldsIf P ops S oi v a)
    (h : wpAnyM P md ops Q S s fuel (listed.setIfInBounds i true) (a.put oi.dst v) w) : wpAnyM P md ops Q S s (fuel + 1) listed a w :=
  wpAnyM_first hi (Region.noSelect_spec hs) hQ hws his fuel listed a w (Region.free_spec hi hf) (by simpa using hr) hy hS h

/-- The one operation that may come up. -/
theorem wpAnyM_only {i : Nat} {oi : Oper} {fuel : Nat} {listed : Array Bool} {a : Act} {w : World} (hi : ops[i]? = some oi) (hr : Region.ready md ops listed = [i])
    (h : ∀ K : Act → World → Prop, Shut (∀ a w, (i = s ∨ S w) → wpAnyM P md ops Q S s fuel (listed.setIfInBounds i true) a w → K a w) → if Region.wanted oi (yielded ops a.tmps) = true then Oper.wp P oi a w K Q else K (a.put oi.dst undef) w) :
    wpAnyM P md ops Q S s (fuel + 1) listed a w := by
  refine ⟨fun h0 => (by rw [hr] at h0; cases h0), fun j hj => ?_⟩
  rw [hr] at hj
  simp at hj
  subst hj
  exact wpOp_step hi (fun K hK => h K (fun a w h1 h2 => hK a w ⟨h1, h2⟩))

theorem wpAnyM_done {fuel : Nat} {listed : Array Bool} {a : Act} {w : World} (hr : Region.ready md ops listed = []) (h : Q .normal a w) : wpAnyM P md ops Q S s fuel listed a w := by
  cases fuel with
  | zero => exact ⟨hr, h⟩
  | succ n => exact ⟨fun _ => h, fun i hi => by rw [hr] at hi; cases hi⟩

theorem wp_region_m {id : Nat} {a : Act} {w : World} (s : Nat) (S : World → Prop) (hm : P.follows .mixedOrders = true)
    (h : wpAnyM P .any ops (NoPanic Q) S s ops.size (Array.replicate ops.size false) a w.drew) : (Code.region id ops true).wp P Q a w :=
  wp_region_noPanic (wp_region_any hm (wpAny_of_m _ _ _ _ h))
end
end Go.Proofs.YtanfimeajalffaaDoor
