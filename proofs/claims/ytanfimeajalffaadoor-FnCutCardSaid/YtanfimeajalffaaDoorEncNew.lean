/-
  A new encoder.
-/
import Derived.Test.YtanfimeajalffaaDoorEncPkg
namespace Go.Proofs.YtanfimeajalffaaDoor
open Go.RowKit

def es0 : ES := { b := [], t := [0], d := [(ByteArray.empty, 0)] }

set_option maxHeartbeats 4000000 in
set_option maxRecDepth 100000 in
theorem newEncoder_any (w : World) :
    Calls Tryd.prog 36 #[] w fun e w' => ∃ E, e = .returned (.pointer (some ⟨E, 0, none⟩)) ∧ EG w' w.heap.size E es0 0 1 ∧ Below w.heap.size w w' := by
  obtain ⟨i0, hi0, hz0, hz1, hz2⟩ := info_parts' u8_info
  have hmm := @run_makeMap Tryd.prog
  have hA : EG ((w.alloc (.map #[] 0)).alloc (.cells #[.slice none 0 0, .slice none 0 0, .map (some w.heap.size)] 117)) w.heap.size (w.heap.size + 1) { b := [], t := [], d := [] } 0 0 := by
    have hblk := Blk.new (w.alloc (.map #[] 0)) 117 #[.slice none 0 0, .slice none 0 0, .map (some w.heap.size)]
    simp only [World.size_alloc] at hblk
    refine ⟨⟨.slice none 0 0, .slice none 0 0, w.heap.size, .map [], 0, hblk, by omega, Nat.le_refl _, World.ownsRow_nil _ _ _ _, World.ownsRow_nil _ _ _ _, .inl rfl, (World.ownsMap_made w _ _ _).alloc _, Nat.le_refl _, fun s => ⟨rfl, fun n hn => by cases hn⟩⟩, ⟨fun s n hn => (by cases hn), Nat.le_refl _⟩, Nat.le_refl _, Nat.le_refl _⟩
  have hA2 := hA.alloc (.cells #[.int .u8 0] 5)
  have hbw0 : Below w.heap.size w ((w.alloc (.map #[] 0)).alloc (.cells #[.slice none 0 0, .slice none 0 0, .map (some w.heap.size)] 117)) := ((Below.refl _ _).alloc (Nat.le_refl _) _).alloc (by simp) _
  have hbw1 := hbw0.alloc (by simp; omega) (.cells #[.int .u8 0] 5)
  obtain ⟨vt, hcv, hown1, hput1⟩ := hA2.1.field1
  have hnew : ∀ j u, ([Value.int .u8 0] : List Value)[j]? = some u → (((w.alloc (.map #[] 0)).alloc (.cells #[.slice none 0 0, .slice none 0 0, .map (some w.heap.size)] 117)).alloc (.cells #[.int .u8 0] 5)).cell? ((⟨w.heap.size + 2, 0, none⟩ : Addr).add j) = some u := by
    have := cell_one_new ((w.alloc (.map #[] 0)).alloc (.cells #[.slice none 0 0, .slice none 0 0, .map (some w.heap.size)] 117)) (.int .u8 0) 5
    simpa using this
  have hvt : vt = .slice none 0 0 := by
    have hblk := (Blk.new (w.alloc (.map #[] 0)) 117 #[.slice none 0 0, .slice none 0 0, .map (some w.heap.size)]).alloc (.cells #[.int .u8 0] 5)
    simp only [World.size_alloc] at hblk
    have := hblk.cell 1
    rw [hcv] at this
    injection this
  subst hvt
  have hsz3 : w.heap.size ≤ (((w.alloc (.map #[] 0)).alloc (.cells #[.slice none 0 0, .slice none 0 0, .map (some w.heap.size)] 117)).alloc (.cells #[.int .u8 0] 5)).heap.size := by simp; omega
  have HP := Lib.hid hput1
  have HB := Lib.hid hbw1
  clear hA hA2 hput1 hcv hbw0 hbw1
  go_enter Tryd.func36, Tryd.ntmps36
  go_wp2_with (first | (at_builtin; refine wpList_append_own_at _ rfl (.tmp 9) (.tmp 10) _ rfl w.heap.size 5 i0 (.int .u8 0) 1 1 Tryd.underlying30 hi0 hz0 hz1 hz2 rfl (by decide) (.slice none 0 0) 0 (Lib.byteCells []) rfl hown1 ⟨w.heap.size + 2, 0, none⟩ 1 1 [Value.int .u8 0] rfl rfl hnew (one_cell _ rfl) (by unfold maxLen; omega) (by omega) hsz3 ?_; intro v4 w4 hown4 hgrow4 _ hat4; obtain ⟨hE5, hF5, hc5, hf5⟩ := HP.out v4 [0] w4 (longer_of (l := []) (x := [0]) hown4 hgrow4 hat4); obtain ⟨A5, c5, rfl⟩ := own_form' hown4; obtain ⟨vb6, vt6, M6, D6, m6, hE6, hbE6, hbM6, hob6, hot6, hne6, hom6, hm6, hD6⟩ := hE5; have hc26 := hE6.cell 2; have hbw6 := HB.out.trans hF5.1; clear hF5 hown4 hgrow4 hat4) | (at_mapUpdate; refine wpList_mapUpdate_own _ rfl _ _ _ 115 rfl 9 3 (Maps.string_keyed Tryd.underlying9) Tryd.underlying115 (Go.plainElem Tryd.prog 3) M6 m6 D6 rfl hom6 (Nat.lt_of_le_of_lt hm6 (by simp [maxLen])) _ _ (.string (ByteArray.empty).data.toList) rfl rfl (WideMaps.keyOf_string_mk Tryd.underlying9 (show (0 : Nat) ≤ maxLen from Nat.zero_le _)) (.lit (.int .i64 ((0 : Nat) : Int))) [] (plainElem_int Tryd.underlying3 (wf64 0 (by omega))) ?_; intro w7 hom7 hgrow7))
  have hE7 : EG w7 w.heap.size (w.heap.size + 1) es0 0 1 := by
    refine ⟨⟨vb6, vt6, M6, _, m6 + 1, hE6.grown hgrow7 (fun e => blk_map_ne hE6 hom6 (by injection e)), hbE6, hbM6, hob6.kept hgrow7 (.inr (own_map_ne hob6 hom6)), hot6.kept hgrow7 (.inr (own_map_ne hot6 hom6)), hne6, hom7, Nat.succ_le_succ hm6, dict_put hom6 hD6 ByteArray.empty 0⟩, ⟨fun s n hn => ?_, Nat.le_refl _⟩, Nat.le_refl _, Nat.le_refl _⟩
    simp only [es0, look] at hn
    split at hn
    · injection hn with hn
      subst hn
      decide
    · cases hn
  have hbw7 := hbw6.grown hgrow7 hbw6.size (fun k hk => by injection hk with hk; omega)
  have HE := Lib.hid hE7
  have HB7 := Lib.hid hbw7
  clear hE7 hbw7 hom7 hgrow7 hE6 hob6 hot6 hom6 hD6 hbw6
  go_ret
  exact ⟨w.heap.size + 1, rfl, HE.out, HB7.out⟩
end Go.Proofs.YtanfimeajalffaaDoor
