/-
  The contracts of short, directivesOk, fileOk, indexOk: what they answer is sound. Conditions: the premises of each theorem.
-/
import Derived.Test.YtanfimeajalffaaDoorTyped
import Derived.Test.YtanfimeajalffaaDoorFits
import Derived.Test.YtanfimeajalffaaDoorRegion
import Derived.Deep.DrawnRows
namespace Go.Proofs.YtanfimeajalffaaDoor
open Go.RowKit
attribute [local go_sem ↓] Go.wp_at_zero Go.wp_at_succ

def shortB (ss : List ByteArray) : Bool := ss.all fun s => decide (s.size ≤ 1000)
theorem shortB_take (ss : List ByteArray) (k : Nat) (hk : k < ss.length) (h : shortB (ss.take k) = true) (hs : ss[k].size ≤ 1000) : shortB (ss.take (k + 1)) = true := by
  unfold shortB at h ⊢
  rw [List.take_add_one, List.getElem?_eq_getElem hk, List.all_append, h]
  simp [hs]
theorem shortB_no (ss : List ByteArray) (k : Nat) (hk : k < ss.length) (hs : ¬ ss[k].size ≤ 1000) : shortB ss = false := by
  unfold shortB
  rw [Bool.eq_false_iff]
  intro h
  rw [List.all_eq_true] at h
  have := h _ (List.getElem_mem hk)
  simp at this
  exact hs this
theorem shortB_mem {ss : List ByteArray} (h : shortB ss = true) : ∀ s ∈ ss, s.size ≤ 1000 := by
  intro s hs
  unfold shortB at h
  rw [List.all_eq_true] at h
  simpa using h s hs

theorem short_any (B : Nat) (v : Value) (ss : List ByteArray) (w : World) (hl : ss.length ≤ 9223372036854775807) (hd : StrsAt w B v ss) : Calls Tryd.prog 14 #[v] w fun e w' => e = .returned (.bool (shortB ss)) ∧ w = w' := by
  obtain ⟨A, c, rfl, hrd⟩ := hd
  have HRD := Lib.hid hrd
  clear hrd
  go_enter Tryd.func14, Tryd.ntmps14
  go_wp2_with fail
  go_loop [4, 7] (fun _ i => ∃ k : Nat, k ≤ ss.length ∧ i = .int .i64 k ∧ shortB (ss.take k) = true) (fun _ i => ss.length - (intOf i).toNat)
  case atStart => exact ⟨0, Nat.zero_le _, rfl, rfl⟩
  case round =>
    obtain ⟨k, hk, rfl, hF⟩ := hrel
    by_cases hlt : k < ss.length
    · obtain ⟨ag, ao, rfl, hab, hc0⟩ := StrsAt.cell HRD.out k hlt
      have HS := Lib.hid (shortB_take ss k hlt hF)
      have HN := Lib.hid (shortB_no ss k hlt)
      generalize ss[k] = s at hc0 HS HN
      clear hF
      go_wp2_with fail
      · have hf := Lib.hid (HN.out (by omega))
        go_ret
        exact ⟨by rw [hf.out]; rfl, rfl⟩
      · have hs : s.size ≤ 1000 := by omega
        go_round
        case rel => exact ⟨k + 1, by omega, by go_num, HS.out hs⟩
        case measure => simp [intOf]; omega
    · have hkl : k = ss.length := by omega
      subst hkl
      rw [List.take_length] at hF
      have HF := Lib.hid hF
      clear hF
      go_wp2_with fail
      go_ret
      exact ⟨by rw [HF.out]; rfl, rfl⟩

theorem strs_new (w : World) (cs : Array Value) (ss : List ByteArray) (n m : Nat) (hn : ss.length = n) (hm : w.heap.size = m) (h : cs.toList = ss.map Value.string) : StrsAt (w.alloc (.cells cs 9)) (m + 1) (.slice (some ⟨m, 0, none⟩) n n) ss := by
  subst hn
  refine ⟨_, _, rfl, ?_⟩
  rw [← h]
  exact reads_row w cs _ m _ 1 (by rw [← Array.length_toList, h]; simp) hm

/-- An answer, sound for p; what lay there lies there still. -/
def Sound (p : Prop) (w : World) (e : Ending) (w' : World) : Prop := ∃ b : Bool, e = .returned (.bool b) ∧ Below w.heap.size w w' ∧ (b = true → p)

set_option maxHeartbeats 2000000 in
set_option maxRecDepth 100000 in
theorem dirsOk_any (B : Nat) (v : Value) (ds : List DirD) (w : World) (hB : B ≤ w.heap.size) (hl : ds.length ≤ 9223372036854775807) (hd : DirsAt w B v ds) :
    Calls Tryd.prog 22 #[v] w (Sound (ds.length ≤ 10 ∧ ∀ d ∈ ds, d.ok) w) := by
  obtain ⟨A, c, rfl, hrd⟩ := hd
  have HRD := Lib.hid hrd
  clear hrd
  go_enter Tryd.func22, Tryd.ntmps22
  go_wp2_with fail
  go_loopw [4, 5, 8] (fun _ _ i wr => ∃ k : Nat, k ≤ ds.length ∧ i = .int .i64 k ∧ Below w.heap.size w wr ∧ ∀ d ∈ ds.take k, d.ok) (fun _ _ i _ => ds.length - (intOf i).toNat)
  case atStart => exact ⟨0, Nat.zero_le _, rfl, Below.refl _ _, by simp⟩
  case round =>
    obtain ⟨k, hk, rfl, hF, hall⟩ := hrel
    have hsz := hF.size
    by_cases hlt : k < ds.length
    · obtain ⟨ag, ao, rfl, hab, hc0, hc1, hc2, hc3, hc4⟩ := DirsAt.cells (HRD.out.below (hF.mono hB)) k hlt
      have HA : Hid (ds[k].ok → ∀ d ∈ ds.take (k + 1), d.ok) := Lib.hid fun h d hd => by
        rw [List.take_add_one, List.getElem?_eq_getElem hlt, List.mem_append] at hd
        rcases hd with hd | hd
        · exact hall d hd
        · simp at hd
          rw [hd]
          exact h
      generalize ds[k] = d at hc0 hc1 hc2 hc3 hc4 HA
      have HC := Lib.hid (fun W h => short_any (wr.heap.size + 3) (.slice (some ⟨wr.heap.size + 2, 0, none⟩) 2 2) [d.text, d.at_.fn] W (by simp) h)
      clear hall
      go_wp2_with (refine (HC.out _ (strs_new _ _ _ _ _ rfl (by simp) rfl)).mono ?_; rintro e w1 ⟨rfl, rfl⟩)
      all_goals first
        | (go_ret; exact ⟨_, rfl, ((hF.alloc hsz _).alloc (by simp; omega) _).alloc (by simp; omega) _, fun h => by cases h⟩)
        | skip
      have hsb : shortB [d.text, d.at_.fn] = true := by assumption
      have hm := shortB_mem hsb
      have hok : d.ok := ⟨hm _ (by simp), hm _ (by simp), by omega, by omega, by omega, by omega, by omega, by omega⟩
      have HO := Lib.hid (HA.out hok)
      clear hm hok
      go_roundw
      case rel => exact ⟨k + 1, by omega, by go_num, ((hF.alloc hsz _).alloc (by simp; omega) _).alloc (by simp; omega) _, HO.out⟩
      case measure => simp [intOf]; omega
    · have hkl : k = ds.length := by omega
      subst hkl
      rw [List.take_length] at hall
      have HALL := Lib.hid hall
      clear hall
      go_wp2_with fail
      go_ret
      refine ⟨_, rfl, hF, fun h => ⟨?_, HALL.out⟩⟩
      simp at h
      omega

set_option maxHeartbeats 2000000 in
set_option maxRecDepth 100000 in
theorem fileOk_any (B : Nat) (cs : List Value) (f : FileD) (w : World) (hB : B ≤ w.heap.size) (hw : f.Wide) (hr : FileR w B cs f) : Calls Tryd.prog 15 #[.agg cs.toArray] w (Sound f.Ok w) := by
  obtain ⟨vc, vi, ve, vd, rfl, ⟨A1, c1, rfl, x1⟩, ⟨A2, c2, rfl, x2⟩, ⟨A3, c3, rfl, x3⟩, ⟨A4, c4, rfl, x4⟩⟩ := hr
  have hb0 : Below w.heap.size w ((w.alloc (.cells #[.string f.err, .string f.perr, .string f.name, .string f.syn, .string f.pkg, .bool f.ign, .bool f.bin, .string f.cgo, .string f.con, .slice A1 f.cons.length c1, .slice A2 f.imps.length c2, .slice A3 f.embs.length c3, .slice A4 f.dirs.length c4] 41)).alloc (.cells #[.string f.err, .string f.perr, .string f.name, .string f.syn, .string f.pkg, .string f.cgo, .string f.con] 9)) := ((Below.refl _ _).alloc (Nat.le_refl _) _).alloc (by simp) _
  have S1 := Lib.hid (short_any (w.heap.size + 2) (.slice (some ⟨w.heap.size + 1, 0, none⟩) 7 7) [f.err, f.perr, f.name, f.syn, f.pkg, f.cgo, f.con] ((w.alloc (.cells #[.string f.err, .string f.perr, .string f.name, .string f.syn, .string f.pkg, .bool f.ign, .bool f.bin, .string f.cgo, .string f.con, .slice A1 f.cons.length c1, .slice A2 f.imps.length c2, .slice A3 f.embs.length c3, .slice A4 f.dirs.length c4] 41)).alloc (.cells #[.string f.err, .string f.perr, .string f.name, .string f.syn, .string f.pkg, .string f.cgo, .string f.con] 9)) (by simp) (strs_new (w.alloc (.cells #[.string f.err, .string f.perr, .string f.name, .string f.syn, .string f.pkg, .bool f.ign, .bool f.bin, .string f.cgo, .string f.con, .slice A1 f.cons.length c1, .slice A2 f.imps.length c2, .slice A3 f.embs.length c3, .slice A4 f.dirs.length c4] 41)) #[.string f.err, .string f.perr, .string f.name, .string f.syn, .string f.pkg, .string f.cgo, .string f.con] [f.err, f.perr, f.name, f.syn, f.pkg, f.cgo, f.con] 7 (w.heap.size + 1) rfl (by simp) rfl))
  have S2 := Lib.hid (fun (W : World) (h : Below w.heap.size w W) => short_any B (.slice A1 f.cons.length c1) f.cons W hw.cons ⟨A1, c1, rfl, x1.below (h.mono hB)⟩)
  have F2 := Lib.hid (fun (W : World) (h : Below w.heap.size w W) => dirsOk_any B (.slice A2 f.imps.length c2) f.imps W (Nat.le_trans hB h.size) hw.imps ⟨A2, c2, rfl, x2.below (h.mono hB)⟩)
  have F3 := Lib.hid (fun (W : World) (h : Below w.heap.size w W) => dirsOk_any B (.slice A3 f.embs.length c3) f.embs W (Nat.le_trans hB h.size) hw.embs ⟨A3, c3, rfl, x3.below (h.mono hB)⟩)
  have F4 := Lib.hid (fun (W : World) (h : Below w.heap.size w W) => dirsOk_any B (.slice A4 f.dirs.length c4) f.dirs W (Nat.le_trans hB h.size) hw.dirs ⟨A4, c4, rfl, x4.below (h.mono hB)⟩)
  have HK := Lib.hid ((Blk.new w 41 #[.string f.err, .string f.perr, .string f.name, .string f.syn, .string f.pkg, .bool f.ign, .bool f.bin, .string f.cgo, .string f.con, .slice A1 f.cons.length c1, .slice A2 f.imps.length c2, .slice A3 f.embs.length c3, .slice A4 f.dirs.length c4]).alloc (.cells #[.string f.err, .string f.perr, .string f.name, .string f.syn, .string f.pkg, .string f.cgo, .string f.con] 9))
  clear x1 x2 x3 x4 hw
  unfold fileCells
  go_enter Tryd.func15, Tryd.ntmps15
  go_wp2_with (first
    | (go_at_call 14; (with_reducible refine (S1.out).mono ?_); rintro e w1 ⟨rfl, rfl⟩)
    | (go_at_call 14; refine (S2.out _ hb0).mono ?_; rintro e w1 ⟨rfl, rfl⟩)
    | (go_at_call 22; refine (F4.out _ hb3).mono ?_; rintro e w4 ⟨b4, rfl, hc4, hs4⟩; have hb4 := hb3.trans (hc4.mono hb3.size); have HS4 := Lib.hid hs4; clear hs4)
    | (go_at_call 22; refine (F3.out _ hb2).mono ?_; rintro e w3 ⟨b3, rfl, hc3, hs3⟩; have hb3 := hb2.trans (hc3.mono hb2.size); have hk3 := hk2.below hc3 hk2.lt; have q12 := hk3.cell 12; have HS3 := Lib.hid hs3; clear hs3)
    | (go_at_call 22; refine (F2.out _ hb0).mono ?_; rintro e w2 ⟨b2, rfl, hc2, hs2⟩; have hb2 := hb0.trans (hc2.mono hb0.size); have hk2 := HK.out.below hc2 HK.out.lt; have q11 := hk2.cell 11; have HS2 := Lib.hid hs2; clear hs2))
  · have g1 : shortB [f.err, f.perr, f.name, f.syn, f.pkg, f.cgo, f.con] = true := by assumption
    have g2 : shortB f.cons = true := by assumption
    have g3 : (f.cons.length : Int) ≤ 10 := by assumption
    have g4 := HS2.out (by assumption)
    have g5 := HS3.out (by assumption)
    have m1 := shortB_mem g1
    have m2 := shortB_mem g2
    have HG := Lib.hid g4
    have HG5 := Lib.hid g5
    have M1 := Lib.hid m1
    have M2 := Lib.hid m2
    clear g4 g5 m1 m2
    go_ret
    refine ⟨_, rfl, hb4, fun h => ?_⟩
    have g6 := HS4.out h
    exact { err := M1.out _ (by simp), perr := M1.out _ (by simp), name := M1.out _ (by simp), syn := M1.out _ (by simp), pkg := M1.out _ (by simp), cgo := M1.out _ (by simp), con := M1.out _ (by simp), cons := M2.out, consL := by omega,
            imps := HG.out.2, impsL := HG.out.1, embs := HG5.out.2, embsL := HG5.out.1, dirs := g6.2, dirsL := g6.1 }
  all_goals (go_ret; first | exact ⟨_, rfl, hb3, fun h => by cases h⟩ | exact ⟨_, rfl, hb2, fun h => by cases h⟩ | exact ⟨_, rfl, hb0, fun h => by cases h⟩)
end Go.Proofs.YtanfimeajalffaaDoor
