/-
  The encoder, more: a text appended to a row of bytes, with the block it lies in behind it; the method String. Conditions: the premises of each theorem.
-/
import Derived.Test.YtanfimeajalffaaDoorEnc3
import Derived.Lib.AppendStr
import Derived.StringKeys
namespace Go.Proofs.YtanfimeajalffaaDoor
open Go.RowKit

theorem strCells_eq (s : ByteArray) : Lib.strCells s = Lib.byteCells s.data.toList := rfl

/-- A text's bytes appended to a row of bytes that is not nil: the row lies where it lay, or in a new block. -/
theorem run_append_text_at (w : World) (base g n cap : Nat) (ty : TypeId) (l : List UInt8) (s : ByteArray) (hl : l.length = n)
    (hown : w.ownsRow base 5 1 (.slice (some ⟨g, 0, none⟩) n cap) n (Lib.byteCells l)) (hb : n + s.size ≤ 200000000) (hbase : base ≤ w.heap.size) :
    ∃ v' w', (Builtin.append_ #[30, 9] ty #[.slice (some ⟨g, 0, none⟩) n cap, .string s]).run Tryd.prog w = .ok v' w' ∧ Longer base w w' (.slice (some ⟨g, 0, none⟩) n cap) v' (l ++ s.data.toList) := by
  subst hl
  obtain ⟨i0, hi0, hz0, hz1, hz2⟩ := info_parts' u8_info
  have hs2 : s.data.toList.length = s.size := by simp
  obtain ⟨v', w', hr, h1, h2, _⟩ := Lib.run_append_own_string (P := Tryd.prog) w base 30 9 ty 5 i0 Tryd.underlying30 Tryd.underlying9 hi0 hz0 hz1 hz2 _ _ _ hown s (by unfold maxLen; omega) (by omega) hbase
  refine ⟨v', w', hr, longer_of (by rw [hs2]; exact h1) h2 ?_⟩
  rcases hown.2 with ⟨h, _⟩ | ⟨g', cap', cur, hv, _, hg, hnc, hcm, hcs, _⟩
  · cases h
  · injection hv with hA _ hc
    injection hA with hA
    injection hA with hA _
    subst hA
    subst hc
    by_cases hroom : l.length + s.size ≤ cap
    · have hr2 := Lib.run_append_room_string (P := Tryd.prog) w 30 9 ty 5 i0 Tryd.underlying30 Tryd.underlying9 hi0 hz1 g l.length cap cur hg s hroom (by omega)
      rw [hr2] at hr
      injection hr with hr _
      subst hr
      exact .inl rfl
    · have hr2 := Lib.run_append_grow_string (P := Tryd.prog) w 30 9 ty 5 i0 (.int .u8 0) Tryd.underlying30 Tryd.underlying9 hi0 hz0 ⟨g, 0, none⟩ l.length cap (Lib.byteCells l) (by rw [hz1, bc_length]; omega) (hown.cells (g := g) rfl) s (by omega) (by omega) (by rw [hz2]; exact growslice_fits (by omega) (by omega))
      rw [hr2] at hr
      injection hr with hr _
      subst hr
      exact .inr rfl

/-- .. at the operation. -/
theorem wpList_append_text_at {ops : Array Oper} {rest : List Oper} {o : Oper} {a : Act} {Q : Exit → Act → World → Prop} {w : World} (hgd : o.guard = none) (sl x : Operand)
    (ho : o.op = .call { callee := .builtin .append, args := #[sl, x], argTypes := #[30, 9] })
    (base g n cap : Nat) (l : List UInt8) (s : ByteArray) (hl : l.length = n) (hs : a.eval sl = .slice (some ⟨g, 0, none⟩) n cap) (hx : a.eval x = .string s)
    (hown : w.ownsRow base 5 1 (.slice (some ⟨g, 0, none⟩) n cap) n (Lib.byteCells l)) (hb : n + s.size ≤ 200000000) (hbase : base ≤ w.heap.size)
    (h : ∀ v' w', Longer base w w' (.slice (some ⟨g, 0, none⟩) n cap) v' (l ++ s.data.toList) → wpList Tryd.prog ops Q rest (a.put o.dst v') w') : wpList Tryd.prog ops Q (o :: rest) a w := by
  refine wpList_plain hgd fun K hK => ?_
  obtain ⟨v', w', hr, h2⟩ := run_append_text_at w base g n cap o.type l s hl hown hb hbase
  unfold Oper.wp execOp
  simp only [ho, resolve, invoke, builtin, Sem.run_bind, Sem.run_pure, Result.andThen_ok, List.map_toArray, List.map_cons, List.map_nil, hs, hx, hr]
  exact hK _ _ (h v' w' h2)

/-- A text, written: its place, and the text itself where it is new. -/
def ES.str (es : ES) (s : ByteArray) : ES :=
  match look es.d s with
  | some n => { es with b := es.b ++ Lib.leBytes 4 n }
  | none => { b := es.b ++ Lib.leBytes 4 es.t.length, t := es.t ++ (Lib.uvarint s.size ++ s.data.toList), d := (s, es.t.length) :: es.d }

theorem wf64 (n : Nat) (h : n ≤ 9223372036854775807) : (Lit.int .i64 (n : Int)).wf = true := by
  have h1 : IntKind.i64.min = -9223372036854775808 := by decide
  have h2 : IntKind.i64.max = 9223372036854775807 := by decide
  simp only [Lit.wf, h1, h2, Bool.and_eq_true, decide_eq_true_eq]
  omega

/-- The second field, to be written: the table has grown. -/
theorem Enc.field1 {base E : Nat} {es : ES} {w : World} (h : Enc w base E es) : ∃ vt, w.cell? ⟨E, 1, none⟩ = some vt ∧ w.ownsRow base 5 1 vt es.t.length (Lib.byteCells es.t) ∧
    ∀ v' l w1, Longer base w w1 vt v' l → Enc (w1.setCell ⟨E, 1, none⟩ v') base E { es with t := l } ∧ Fr base E w (w1.setCell ⟨E, 1, none⟩ v') ∧ w1.cell? ⟨E, 1, none⟩ = some vt ∧ w1.frozen? ⟨E, 1, none⟩ = false := by
  obtain ⟨vb, vt, M, D, m, hE, hbE, hbM, hob, hot, hne, hom, hm, hD⟩ := h
  refine ⟨vt, hE.cell 1, hot, fun v1 l w1 hL => ?_⟩
  obtain ⟨h1, hg, hat⟩ := hL
  have hEb : vb.ownBlock ≠ some E := own_blk_ne hob hE (by decide)
  have hEt : vt.ownBlock ≠ some E := own_blk_ne hot hE (by decide)
  have hE1 : Blk w1 E 117 #[vb, vt, .map (some M)] := hE.grown hg hEt.symm
  have hE' : v1.ownBlock ≠ some E := own_blk_ne h1 hE1 (by decide)
  have hne1 : ∀ k, v1.ownBlock = some k → vb.ownBlock ≠ some k := by
    intro k hk ht
    rcases hat k hk with h | h
    · rcases hne with h' | h'
      · rw [h'] at ht; cases ht
      · exact h' (ht.trans h.symm)
    · have := (hob.lt k ht).2
      omega
  have hob1 : w1.ownsRow base 5 1 vb es.b.length (Lib.byteCells es.b) := hob.kept hg hne
  have hom1 := hom.kept hg (own_map_ne hot hom).symm
  have hME : M ≠ E := fun h => blk_map_ne hE hom h.symm
  have hS := grownBy_setCell w1 ⟨E, 1, none⟩ v1
  refine ⟨⟨vb, v1, M, D, m, ?_, hbE, hbM, hob1.kept hS (.inr hEb), h1.kept hS (.inr hE'), ?_, hom1.kept hS (by simpa using hME), hm, hD⟩, ⟨((Below.refl base w).grown hg (by have := hE.lt; omega) (fun k hk => (hot.lt k hk).1)).setCell hbE _, fun g hg2 => ?_⟩, hE1.cell 1, hE1.frozen 1⟩
  · exact hE1.set_ 1 v1
  · cases h : vb.ownBlock with
    | none => exact .inl rfl
    | some k => exact .inr fun h2 => hne1 k h2.symm h
  · obtain ⟨hlt, vb', vt', M', hE2, g1, g2, g3, g4⟩ := hg2
    obtain ⟨rfl, rfl, rfl⟩ := blk_inj hE hE2
    refine ⟨⟨?_, vb, v1, M, hE1.set_ 1 v1, g1, g2, g3, fun h => ?_⟩, (Below.heap_setCell w1 _ v1 g g1).trans (hg.block g hlt (Ne.symm g4))⟩
    · have := hg.size
      simp
      omega
    · rcases hat g h with h | h
      · exact g4 h
      · omega

theorem dict_put {w : World} {M m : Nat} {D : DataW Unit} {R} {d : List (ByteArray × Nat)} (hom : w.ownsMap Tryd.prog 9 R M m D) (h : DictIs D d) (s : ByteArray) (n : Nat) :
    DictIs (D.put (.string s.data.toList) (.lit (.int .i64 (n : Int)))) ((s, n) :: d) := by
  intro x
  by_cases hx : s = x
  · subst hx
    refine ⟨?_, fun k hk z => ?_⟩
    · rw [Maps.has_put_same hom.isMap (by trivial)]
      simp [look]
    · simp [look] at hk
      subst hk
      exact Maps.atKey_put_same hom.isMap (by trivial) _ _
  · have hne : (Lit.string x.data.toList) ≠ .string s.data.toList := by
      intro e
      injection e with e
      exact hx (by cases s; cases x; simp_all)
    refine ⟨?_, fun k hk z => ?_⟩
    · rw [Maps.has_put_other hne, (h x).1]
      simp [look, hx]
    · simp [look, hx] at hk
      rw [Maps.atKey_put_other hne]
      exact (h x).2 k hk z

theorem int_info : (Tryd.prog.info? 3).map (fun i => (i.zero, i.size, i.bytes)) = some (some (.int .i64 0), 1, 8) := by kernel_rfl

set_option maxHeartbeats 4000000 in
set_option maxRecDepth 100000 in
theorem string_any (base E : Nat) (s : ByteArray) (es : ES) (w : World) (hs : s.size ≤ 1000) (hl : es.b.length ≤ 100000000) (ht : es.t.length ≤ 100000000) (hgood : Good es) (h : Enc w base E es) :
    Calls Tryd.prog 44 #[.pointer (some ⟨E, 0, none⟩), .string s] w fun e w' => e = .returned (.tuple #[]) ∧ Enc w' base E (es.str s) ∧ Fr base E w w' := by
  obtain ⟨ii, hi0, hi1, hi2, hi3⟩ := info_parts' int_info
  have hz : (zeroValue 3).run Tryd.prog w = .ok (.int .i64 0) w := by simp [zeroValue, typeInfo, hi0, hi1]
  have hEnc := Lib.hid h
  obtain ⟨vb, vt, M, D, m, hE, hbE, hbM, hob, hot, hne, hom, hm, hD⟩ := h
  have hc2 : w.cell? ⟨E, 2, none⟩ = some (.map (some M)) := hE.cell 2
  have hkey : keyOf Tryd.prog 9 (.string s) = some (.string s.data.toList) := WideMaps.keyOf_string_mk Tryd.underlying9 (by unfold maxLen; omega)
  cases hlk : look es.d s with
  | some n =>
    have hstr : es.str s = { es with b := es.b ++ Lib.leBytes 4 n } := by simp [ES.str, hlk]
    have hn := hgood.1 s n hlk
    have hhas := (hD s).1
    rw [hlk] at hhas
    have hat := (hD s).2 n hlk
    have C := int_any base E n es w (by omega) hl hEnc.out
    rw [← hstr] at C
    have HC := Lib.hid C
    clear hstr hlk C hob hot hne hm hE
    go_enter Tryd.func44, Tryd.ntmps44
    go_wp2_with (at_lookup; refine wpList_lookup_own_ok_int w rfl _ _ 115 rfl 9 3 .i64 (Maps.string_keyed Tryd.underlying9) Tryd.underlying115 Tryd.underlying3 hz M m D rfl hom _ _ rfl hkey ?_; intro c hc _; rw [hhas])
    have hcn : c = (n : Int) := by
      have := hc.symm.trans (hat _)
      injection this with this
      injection this
    subst hcn
    refine (HC.out).mono ?_
    rintro e w1 ⟨rfl, hE1, hB1⟩
    go_wp2_with fail
    refine bodyPost_ret (results_none rfl _ _ _) rfl ?_
    exact ⟨rfl, hE1, hB1⟩
  | none =>
    have hstr : es.str s = { b := es.b ++ Lib.leBytes 4 es.t.length, t := es.t ++ (Lib.uvarint s.size ++ s.data.toList), d := (s, es.t.length) :: es.d } := by simp [ES.str, hlk]
    have hhas := (hD s).1
    rw [hlk] at hhas
    have hmax : m < maxLen := by
      have := hgood.2
      unfold maxLen
      omega
    have hc1 : w.cell? ⟨E, 1, none⟩ = some vt := hE.cell 1
    obtain ⟨At, ct, rfl⟩ := own_form' hot
    have hzi : Go.plainElem (H := Unit) Tryd.prog 3 (.int .i64 (es.t.length : Int)) = some (.lit (.int .i64 (es.t.length : Int)), []) := plainElem_int Tryd.underlying3 (wf64 _ (by omega))
    go_enter Tryd.func44, Tryd.ntmps44
    go_wp2_with (first | (at_lookup; refine wpList_lookup_own_ok_int w rfl _ _ 115 rfl 9 3 .i64 (Maps.string_keyed Tryd.underlying9) Tryd.underlying115 Tryd.underlying3 hz M m D rfl hom _ _ rfl hkey ?_; intro c hc _; rw [hhas]) | (at_mapUpdate; refine wpList_mapUpdate_own w rfl _ _ _ 115 rfl 9 3 (Maps.string_keyed Tryd.underlying9) Tryd.underlying115 (Go.plainElem Tryd.prog 3) M m D rfl hom hmax _ _ (.string s.data.toList) rfl rfl hkey (.lit (.int .i64 (es.t.length : Int))) [] hzi ?_; intro w1 hom1 hgrow1))
    have hbw1 : Fr base E w w1 := by
      refine ⟨(Below.refl base w).grown hgrow1 (by have := hE.lt; omega) (fun k hk => by injection hk with hk; omega), fun x hx => ?_⟩
      obtain ⟨hlt, vb', vt', M', hE2, g1, g2, g3, g4⟩ := hx
      obtain ⟨rfl, rfl, rfl⟩ := blk_inj hE hE2
      exact ⟨⟨Nat.lt_of_lt_of_le hlt hgrow1.size, _, _, _, hE.grown hgrow1 (fun e => blk_map_ne hE hom (by injection e)), g1, g2, g3, g4⟩, hgrow1.block x hlt (fun e => g2 (by injection e))⟩
    have hE1 : Enc w1 base E { es with d := (s, es.t.length) :: es.d } :=
      ⟨vb, .slice At es.t.length ct, M, _, m + 1, hE.grown hgrow1 (fun e => blk_map_ne hE hom (by injection e)), hbE, hbM, hob.kept hgrow1 (.inr (own_map_ne hob hom)), hot.kept hgrow1 (.inr (own_map_ne hot hom)), hne, hom1, by simp; omega, dict_put hom hD s _⟩
    have C := int_any base E es.t.length { es with d := (s, es.t.length) :: es.d } w1 (by omega) hl hE1
    clear hE1 hom1 hgrow1 hob hot hne hom hE hD hm hmax hhas hc2 hc1 hEnc
    refine C.mono ?_
    rintro e w2 ⟨rfl, hE2, hB2⟩
    clear C
    obtain ⟨vt2, hcell2, hown2, hput2⟩ := hE2.field1
    have hbw2 := hbw1.trans hB2
    have hlt2 : base ≤ w2.heap.size := by
      obtain ⟨_, _, _, _, _, hE, hbE, _⟩ := hE2
      have := hE.lt
      omega
    have C := appendUvarint_any base s.size vt2 es.t w2 (by omega) hown2 ht hlt2
    have HP2 := Lib.hid hput2
    clear hput2 hown2 hE2 hB2
    go_wp2_with fail
    refine C.mono ?_
    rintro e w3 ⟨v3, rfl, hL3⟩
    clear C
    obtain ⟨hE3, hB3, hc3, hf3⟩ := HP2.out v3 _ w3 hL3
    obtain ⟨g3, c3, rfl, _, _⟩ := hL3.1.form (by have := Lib.uvarint_pos s.size; rw [List.length_append]; omega)
    have hlen := Lib.uvarint_length 1 s.size (by omega)
    have hl3 : (es.t ++ Lib.uvarint s.size).length ≤ 100000002 := by rw [List.length_append]; omega
    generalize hX : es.t ++ Lib.uvarint s.size = X at *
    have HX := Lib.hid hX
    clear hX hL3 hlen
    have hc4 : (w3.setCell ⟨E, 1, none⟩ (.slice (some ⟨g3, 0, none⟩) X.length c3)).cell? ⟨E, 1, none⟩ = some (.slice (some ⟨g3, 0, none⟩) X.length c3) := by simp [go_sem, hc3]
    obtain ⟨vt4, hc4', hown4, hput4⟩ := hE3.field1
    rw [hc4] at hc4'
    injection hc4' with hc4'
    subst hc4'
    have hlt4 : base ≤ (w3.setCell ⟨E, 1, none⟩ (.slice (some ⟨g3, 0, none⟩) X.length c3)).heap.size := by
      obtain ⟨_, _, _, _, _, hE, hbE, _⟩ := hE3
      have := hE.lt
      omega
    have HP4 := Lib.hid hput4
    clear hput4 hE3 HP2
    have hlen5 : (X ++ s.data.toList).length = X.length + s.size := by simp
    go_wp2_with (at_builtin; refine wpList_append_text_at rfl (.tmp 49) (.tmp 50) rfl base g3 X.length c3 X s rfl rfl rfl hown4 (by omega) hlt4 ?_; intro v5 w5 hL5; obtain ⟨hE5, hB5, hc5, hf5⟩ := HP4.out v5 _ w5 hL5; obtain ⟨A5, c5, rfl⟩ := own_form' hL5.1; rw [hlen5] at hE5 hB5; have HE5 := Lib.hid hE5; have HB5 := Lib.hid hB5; clear hE5 hB5 hL5 hown4)
    refine bodyPost_end (results_none rfl _ _ _) rfl ?_
    refine ⟨rfl, ?_, (hbw2.trans hB3).trans HB5.out⟩
    rw [hstr, ← List.append_assoc, HX.out]
    exact HE5.out
end Go.Proofs.YtanfimeajalffaaDoor
