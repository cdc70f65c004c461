/-
  The frame of this seat's proofs: a law that returns true and leaves what was there meets its specification; what the listed error variable holds. No condition: lemmas alone.
-/
import Derived.Test.YtanfimeajalffaaGreatDoorCards
import Derived.Test.YtanfimeajalffaaGreatDoorTie
import Derived.Test.YtanfimeajalffaaGreatDoorGA
import Derived.WalkKit
import Derived.ProofKit
import Derived.OpenShut
import Derived.Carry
import Derived.WalkSmall
import Derived.Deep.DeepHandedRow
import Derived.Deep.DeepWitnessRowRef
import Derived.LaidMore
import Derived.Stop.ErrReads
import Derived.RowKitTokens
import Derived.ChangeSame
namespace Go.Proofs.YtanfimeajalffaaGreatDoor
open Go.ChangeShapes Go.WideShapes Go.ChangeAt Go.RowKit

section
variable {H : Type} {enc : TypeId × Value → H} {P : Program}
theorem post_of_below {f : Func} {s : ChangeSpec} {apart fresh handsOn again : Bool} {W W' : World} {args : Array Value} {v : Value} {ds gs : List (DataW H)} {before pa pv : List MemPlace}
    (hW : DataW.Whole enc P f.params.toList s.vars apart W args.toList ds gs before)
    (hres : ∀ (b : Nat) (sp : Nat → Bool) (hd : Bool), DataW.TrodAll enc P W' b sp hd f.resultTypes.toList (v.resultList f.resultTypes.size) (s.fn H (ds ++ gs)).results [])
    (hargs : ∀ sp : Nat → Bool, (∀ p ∈ before, sp p.block = true) → DataW.TrodAll enc P W' 0 sp true f.params.toList args.toList (s.fn H (ds ++ gs)).args pa)
    (hvars : ∀ sp : Nat → Bool, (∀ p ∈ before, sp p.block = true) → DataW.TrodVars enc P W' sp s.vars (s.fn H (ds ++ gs)).vars pv)
    (hps : before = pa ++ pv) (hb : Below W.heap.size W W')
    (hok : ∀ (j : Nat) (t : TypeId) (r : Value), f.resultTypes[j]? = some t → (v.resultList f.resultTypes.size)[j]? = some r → Value.okWide P W' .any 0 t r) :
    s.post enc P f apart fresh handsOn again W args v W' := by
  have hlt : ∀ p ∈ before, p.block < W.heap.size := fun p hp => hW.lt p hp
  have hold : ∀ p ∈ before, (fun b => decide (b < W.heap.size)) p.block = true := fun p hp => by simpa using hlt p hp
  refine ⟨ds, gs, before, [], pa, pv, hW, hres _ _ _, hargs _ hold, hvars _ hold, World.keptBut_mono (fun p hp => ⟨hp, ?_⟩) (hb.frame (· ∈ before)), fun _ => ?_⟩
  · rw [hps, List.mem_append] at hp
    exact Or.inr hp
  · obtain ⟨_, _, _, _, _, hz, hn⟩ := hW
    refine ⟨hok, _, _, ([] ++ pa) ++ pv, ⟨[] ++ pa, pv, trodAll_append (hargs _ (fun _ _ => rfl)) (hres _ _ _), hvars _ (fun _ _ => rfl), rfl, ?_, ?_⟩, ?_⟩
    · intro b off hp
      have hin : MemPlace.cell b off ∈ before := by rw [hps]; simpa using hp
      rw [hb.frozen (hlt _ hin)]
      exact hz b off hin
    · intro ha
      have := hn ha
      rw [hps] at this
      simpa using this
    · intro p hp _
      rw [hps]
      simpa using hp
end

section
variable {H : Type} {enc : TypeId × Value → H} {P : Program} {W W' : World}

theorem trodAll_stays (hl : laidOutB P = true) {sp : Nat → Bool} (hb : Below W.heap.size W W') : ∀ {ts : List TypeId} {vs : List Value} {ds : List (DataW H)} {ps : List MemPlace}, (∀ t ∈ ts, P.readableRec t = true ∧ t < P.types.size) →
    DataW.TrodAll enc P W 0 (fun _ => true) true ts vs ds ps → (∀ x ∈ ps, x.block < W.heap.size) → (∀ x ∈ ps, sp x.block = true) → DataW.TrodAll enc P W' 0 sp true ts vs ds ps
  | [], [], [], _, _, h, _, _ => h
  | _ :: _, _ :: _, _ :: _, _, hT, ⟨p, q, h1, h2, e⟩, hlt, hs =>
    ⟨p, q, WideElems.Trod_stays hl (hT _ (List.mem_cons.2 (Or.inl rfl))).1 (hT _ (List.mem_cons.2 (Or.inl rfl))).2 h1 (fun x hx => hb.same (hlt x (by rw [e]; exact List.mem_append_left _ hx))) (fun x hx => hs x (by rw [e]; exact List.mem_append_left _ hx)),
      trodAll_stays hl hb (fun t ht => hT t (List.mem_cons.2 (Or.inr ht))) h2 (fun x hx => hlt x (by rw [e]; exact List.mem_append_right _ hx)) (fun x hx => hs x (by rw [e]; exact List.mem_append_right _ hx)), e⟩

/-- A variable of an interface type. -/
def ifaceVar (P : Program) (n : String) : Bool :=
  match P.globalNamed n with
  | some g =>
    match (P.globals[g]?).map (·.type) with
    | some t =>
      match P.underlying t with
      | some (.interface _) => true
      | _ => false
    | none => false
  | none => false

theorem trodVars_stays {sp : Nat → Bool} (hb : Below W.heap.size W W') : ∀ {ns : List String} {gs : List (DataW H)} {ps : List MemPlace}, ns.all (ifaceVar P) = true →
    DataW.TrodVars enc P W (fun _ => true) ns gs ps → DataW.TrodVars enc P W' sp ns gs ps
  | [], [], _, _, h => h
  | n :: ns, _ :: _, _, hT, ⟨g, t, cs, fuel, p, q, hg, ht, hv, hd, hr, e⟩ => by
    simp only [List.all_cons, Bool.and_eq_true] at hT
    have hu := hT.1
    unfold ifaceVar at hu
    simp only [hg, ht] at hu
    have hgB : g < W.heap.size := by
      unfold World.var? at hv
      simp only [hg, Option.bind_some] at hv
      rcases Nat.lt_or_ge g W.heap.size with h' | h'
      · exact h'
      · simp [Array.getElem?_eq_none h'] at hv
    refine ⟨g, t, cs, fuel, p, q, hg, ht, var?_below hb hg hgB hv, ?_, trodVars_stays hb hT.2 hr, e⟩
    split at hu
    · rename_i ms hms
      cases fuel with
      | zero => exact hd
      | succ m =>
        generalize cs.toList = l at hd ⊢
        rcases l with _ | ⟨v, _ | ⟨v2, l⟩⟩
        · simp [DataW.trod, hms] at hd
        · cases v <;> simp [DataW.trod, hms] at hd ⊢ <;> exact hd
        · simp [DataW.trod, hms] at hd
    · cases hu

/-- A LAW THAT RETURNS true AND LEAVES WHAT WAS THERE MEETS ITS SPECIFICATION. -/
theorem law_post {f : Func} {s : ChangeSpec} {tb : TypeId} {args : Array Value} {ds gs : List (DataW H)} {before : List MemPlace} (hl : laidOutB P = true)
    (hts : f.params.toList.all (fun t => P.readableRec t && decide (t < P.types.size)) = true) (hvs : s.vars.all (ifaceVar P) = true) (hres : f.resultTypes = #[tb]) (htb : P.underlying tb = some .bool)
    (hfn : s.fn H (ds ++ gs) = { results := [.lit (.bool true)], args := ds, vars := gs })
    (hok : ∀ (j : Nat) (t : TypeId) (r : Value), f.resultTypes[j]? = some t → ((Value.bool true).resultList f.resultTypes.size)[j]? = some r → Value.okWide P W' .any 0 t r)
    (hW : DataW.Whole enc P f.params.toList s.vars false W args.toList ds gs before) (hb : Below W.heap.size W W') : s.post enc P f false true false false W args (.bool true) W' := by
  obtain ⟨p, q, hA, hV, rfl, _, _⟩ := id hW
  have hlt : ∀ x ∈ p ++ q, x.block < W.heap.size := fun x hx => hW.lt x hx
  refine post_of_below (pa := p) (pv := q) hW (fun b sp hd => ?_) (fun sp hs => ?_) (fun sp hs => ?_) rfl hb hok
  · rw [hfn, hres]
    exact trodAll_mk1 (shut_bool htb true)
  · rw [hfn]
    refine trodAll_stays hl hb (fun t ht => ?_) hA (fun x hx => hlt x (List.mem_append_left _ hx)) (fun x hx => hs x (List.mem_append_left _ hx))
    have := List.all_eq_true.1 hts t ht
    simpa using this
  · rw [hfn]
    exact trodVars_stays hb hvs hV
end

theorem laidOut : laidOutB Tryz.prog = true := by kernel_rfl
theorem own : ownKnob Tryz.prog.godebug = none := by kernel_rfl
theorem gCorrupt : Tryz.prog.globalNamed "loop.example/pub-g01467/pub/modindex.errCorrupt" = some 0 := by kernel_rfl
theorem gCorruptType : (Tryz.prog.globals[0]?).map (·.type) = some 47 := by kernel_rfl
theorem cellsES : Tryz.prog.cellsOf 146 = 1 := by kernel_rfl
theorem cellsS : Tryz.prog.cellsOf 9 = 1 := by kernel_rfl
theorem starES : "*" ++ "errors.errorString" = "*errors.errorString" := by decide
theorem rowES (u : TypeId) (h : Tryz.prog.typeName? 3 u = some "*errors.errorString") : u = 144 :=
  typeName_ptr_named (nm := "errors.errorString") (by rw [starES]; kernel_rfl) (by kernel_rfl) (by decide) u (by rw [starES]; exact h)

set_option maxRecDepth 100000 in
/-- What the listed variable holds: a pointer to an error. -/
theorem corrupt_of_laid {W : World} {d : List UInt8} {rest : List (String × DataW Unit)} (h : laidMet Tryz.prog (("loop.example/pub-g01467/pub/modindex.errCorrupt", .iface "*errors.errorString" (.ptr (.agg [.lit (.string d)]))) :: rest) W) :
    ∃ a, W.cell? ⟨0, 0, none⟩ = some (.iface 144 (.pointer (some a))) := by
  obtain ⟨ps, ⟨g0, t0, cs0, f0, p0, q0, hg0, ht0, hv0, hd0, _, e0⟩, hnd, hrows⟩ := h
  obtain rfl := Option.some.inj (gCorrupt.symm.trans hg0)
  obtain rfl := Option.some.inj (gCorruptType.symm.trans ht0)
  subst e0
  obtain ⟨l0⟩ := cs0
  have ok0 : ∀ u v, l0 = [.iface u v] → Value.okWide Tryz.prog W .any 0 u v := fun u v e => by
    subst e
    exact (hrows 0 0 (by simp [MemPlace.row])).2 u v (by simpa using World.var?_cell hg0 hv0 0)
  obtain ⟨a0, s0, rfl, _⟩ := errorString_of_trod Tryz.underlying47 rowES Tryz.underlying144 Tryz.underlying146 rfl rfl Tryz.underlying9 cellsES cellsS hd0 ok0
  exact ⟨a0, by simpa using World.var?_cell hg0 hv0 0⟩

/-- An argument of type []byte, opened. -/
theorem open_bs {H : Type} {enc : TypeId × Value → H} {W : World} {a0 : Option Addr} {len cap : Nat} {d0 : DataW H} {p : List MemPlace} (h0 : DataW.Trod enc Tryz.prog W 0 (fun _ => true) true 26 (.slice a0 len cap) d0 p) :
    ∃ l : List UInt8, l.length = len ∧ len ≤ cap ∧ cap ≤ maxLen ∧ (0 < len → ∃ g o, a0 = some ⟨g, o, none⟩ ∧ ∀ j (hj : j < l.length), W.cell? ⟨g, o + j, none⟩ = some (.int .u8 (l[j]).toNat)) := by
  obtain ⟨fuel, hf⟩ := h0
  rcases open_ints Tryz.underlying26 Tryz.underlying5 (by kernel_rfl) hf with ⟨hcs, hx⟩ | ⟨a, len', cap', zs, hcs, _, hl, hm, hz, hx, hcell, hwz⟩
  · simp [Value.cells] at hcs
    obtain ⟨rfl, rfl, rfl⟩ := hcs
    exact ⟨[], rfl, Nat.le_refl _, by simp [maxLen], fun h => absurd h (by omega)⟩
  · simp [Value.cells] at hcs
    obtain ⟨rfl, rfl, rfl⟩ := hcs
    simp only [if_true] at hz
    have hb : ∀ z ∈ zs, 0 ≤ z ∧ z < 256 := fun z hzm => by
      have h := hwz z hzm
      have h1 : IntKind.u8.min = 0 := rfl
      have h2 : IntKind.u8.max = 255 := rfl
      simp only [Lit.wf, Bool.and_eq_true, decide_eq_true_eq] at h
      omega
    refine ⟨(zs.take len).map fun z => z.toNat.toUInt8, by simp; omega, hl, hm, fun h0 => ?_⟩
    obtain ⟨g, o, s⟩ := a
    have hs : s = none := by simpa [Addr.add] using World.cell?_spot (hcell 0 (by omega))
    subst hs
    refine ⟨g, o, rfl, fun j hj => ?_⟩
    have hjl : j < zs.length := by simp at hj; omega
    have hc := hcell j hjl
    have hadd : (⟨g, o, none⟩ : Addr).add j = ⟨g, o + j, none⟩ := by unfold Addr.add; split <;> simp_all
    rw [hadd] at hc
    rw [hc]
    have hzj := hb zs[j] (List.getElem_mem hjl)
    have e1 : zs.getD j 0 = zs[j] := by simp [List.getD, hjl]
    have e2 : ((zs[j].toNat.toUInt8).toNat : Int) = zs[j] := by
      simp [Nat.toUInt8, UInt8.toNat_ofNat']
      omega
    simp only [List.getElem_map, List.getElem_take, e1, e2]
end Go.Proofs.YtanfimeajalffaaGreatDoor
