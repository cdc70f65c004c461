/-
  What the laws about an index share: Encode's contract, the index's bounds, bytes to a text. Conditions: packages within the law's bounds.
-/
import Derived.Test.YtanfimeajalffaaGreatDoorIndexOk
import Derived.Test.YtanfimeajalffaaGreatDoorZZEncode
import Derived.Test.YtanfimeajalffaaGreatDoorGB
import Derived.Laws.BytesArg
namespace Go.Proofs.YtanfimeajalffaaGreatDoor
open Go.RowKit
attribute [local go_sem ↓] Go.wp_at_zero Go.wp_at_succ

/-- Bytes to a text, whatever the address where there are none. -/
theorem conv_any (A : Option Addr) (c : Nat) (l : List UInt8) (w : World) (hp : 0 < l.length → ∃ g o, A = some ⟨g, o, none⟩ ∧ ∀ j (hj : j < l.length), w.cell? ⟨g, o + j, none⟩ = some (.int .u8 (l[j]).toNat)) :
    (convert 26 9 (.slice A l.length c)).run Tryz.prog w = .ok (.string ⟨l.toArray⟩) w := by
  have hxs : ((l.map fun b => ((b.toNat : Nat) : Int)).map (fun n => UInt8.ofNat n.toNat)) = l := by
    rw [List.map_map]
    conv => rhs; rw [← List.map_id l]
    apply List.map_congr_left
    intro b _
    simp
  rcases A with _ | a
  · have h0 : l = [] := by
      rcases l with _ | ⟨b, l⟩
      · rfl
      · obtain ⟨g, o, h, _⟩ := hp (by simp)
        cases h
    subst h0
    exact run_convert_bytes_nil w 26 5 Tryz.underlying26 Tryz.underlying5 _ _ 9 Tryz.underlying9
  · have hl : (loadCells a l.length).run Tryz.prog w = .ok ((l.map fun b => ((b.toNat : Nat) : Int)).map (Value.int .u8)).toArray w := by
      have := run_loadCells_list (P := Tryz.prog) w a ((l.map fun b => ((b.toNat : Nat) : Int)).map (Value.int .u8)) (fun j v hj => by
        have hjl : j < l.length := by
          have := (List.getElem?_eq_some_iff.1 hj).1
          simpa using this
        obtain ⟨g, o, h, hc⟩ := hp (by omega)
        injection h with h
        subst h
        have hplain : (⟨g, o, none⟩ : Addr).add j = ⟨g, o + j, none⟩ := by unfold Addr.add; split <;> simp_all
        rw [hplain, hc j hjl]
        simp [List.getElem?_eq_getElem hjl] at hj
        subst hj
        rfl)
      simpa using this
    rw [run_convert_bytes_string w 26 9 5 _ l.length c Tryz.underlying26 Tryz.underlying5 Tryz.underlying9, run_bytesToString w _ l.length c _ hl, foldl_push_bytes, hxs]
    simp [ByteArray.empty, ByteArray.emptyWithCapacity]
    rfl

theorem conv_own {w : World} {base c : Nat} {A : Option Addr} {l : List UInt8} (h : w.ownsRow base 5 1 (.slice A l.length c) l.length (Lib.byteCells l)) : (convert 26 9 (.slice A l.length c)).run Tryz.prog w = .ok (.string ⟨l.toArray⟩) w :=
  conv_any A c l w fun h0 => by
    obtain ⟨g, cap, hv, _⟩ := h.form h0
    injection hv with hA
    subst hA
    exact ⟨g, 0, rfl, fun j hj => by rw [Nat.zero_add, h.cellAt j (by omega)]; exact bc_getElem l j hj⟩

theorem encode_any (B : Nat) (v : Value) (ps : List PkgD) (w : World) (hB : B ≤ w.heap.size) (hok : PkgsOk ps) (hv : PkgsAt w B v ps) :
    Calls Tryz.prog 10 #[v] w fun e w' => ∃ v', e = .returned v' ∧ w'.ownsRow w.heap.size 5 1 v' (enc ps).length (Lib.byteCells (enc ps)) ∧ Below w.heap.size w w' :=
  encode_of B v ps w hB hok hv fun u W h => zzEncode_any u ps W hok h

theorem enc_pos (ps : List PkgD) (h : PkgsOk ps) : 0 < (enc ps).length ∧ (enc ps).length ≤ 80000000 := by
  obtain ⟨b, t, h1, _, h2, _, _, _, h3, h4, _⟩ := enc_is ps h
  refine ⟨?_, h4⟩
  rw [h1, List.length_append]
  omega
end Go.Proofs.YtanfimeajalffaaGreatDoor
