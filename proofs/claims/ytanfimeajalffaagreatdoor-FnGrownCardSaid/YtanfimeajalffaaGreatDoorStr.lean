/-
  Contracts of asString and stringTableAt: the text at a place of a table of texts. Their conditions are the premises of each theorem.
-/
import Derived.Test.YtanfimeajalffaaGreatDoorInt
import Derived.Test.YtanfimeajalffaaGreatDoorShelf
import Derived.Laws.BytesArg
import Derived.Lib.VarintDec
namespace Go.Proofs.YtanfimeajalffaaGreatDoor
open Go.RowKit

/-- Bytes to a text, whatever the address where there are none. -/
theorem conv_bs (A : Option Addr) (c : Nat) (l : List UInt8) (w : World) (hp : 0 < l.length → ∃ g o, A = some ⟨g, o, none⟩ ∧ ∀ j (hj : j < l.length), w.cell? ⟨g, o + j, none⟩ = some (.int .u8 (l[j]).toNat)) :
    (convert 26 9 (.slice A l.length c)).run Tryz.prog w = .ok (.string ⟨l.toArray⟩) w := by
  have hxs : ((l.map fun b => ((b.toNat : Nat) : Int)).map (fun n => UInt8.ofNat n.toNat)) = l := by
    rw [List.map_map]
    conv => rhs; rw [← List.map_id l]
    apply List.map_congr_left
    intro b _
    simp
  rcases A with _ | a
  · have h0 : l = [] := by
      rcases l with _ | ⟨b, l⟩
      · rfl
      · obtain ⟨g, o, h, _⟩ := hp (by simp)
        cases h
    subst h0
    exact run_convert_bytes_nil w 26 5 Tryz.underlying26 Tryz.underlying5 _ _ 9 Tryz.underlying9
  · have hl : (loadCells a l.length).run Tryz.prog w = .ok ((l.map fun b => ((b.toNat : Nat) : Int)).map (Value.int .u8)).toArray w := by
      have := run_loadCells_list (P := Tryz.prog) w a ((l.map fun b => ((b.toNat : Nat) : Int)).map (Value.int .u8)) (fun j v hj => by
        have hjl : j < l.length := by
          have := (List.getElem?_eq_some_iff.1 hj).1
          simpa using this
        obtain ⟨g, o, h, hc⟩ := hp (by omega)
        injection h with h
        subst h
        have hplain : (⟨g, o, none⟩ : Addr).add j = ⟨g, o + j, none⟩ := by unfold Addr.add; split <;> simp_all
        rw [hplain, hc j hjl]
        simp [List.getElem?_eq_getElem hjl] at hj
        subst hj
        rfl)
      simpa using this
    rw [run_convert_bytes_string w 26 9 5 _ l.length c Tryz.underlying26 Tryz.underlying5 Tryz.underlying9, run_bytesToString w _ l.length c _ hl, foldl_push_bytes, hxs]
    simp [ByteArray.empty, ByteArray.emptyWithCapacity]
    rfl

theorem asString_any (A : Option Addr) (c : Nat) (l : List UInt8) (n : Nat) (hn : l.length = n) (w : World) (hp : 0 < l.length → ∃ g o, A = some ⟨g, o, none⟩ ∧ ∀ j (hj : j < l.length), w.cell? ⟨g, o + j, none⟩ = some (.int .u8 (l[j]).toNat)) :
    Calls Tryz.prog 92 #[.slice A n c] w fun e w' => e = .returned (.string ⟨l.toArray⟩) ∧ w = w' := by
  subst hn
  have hcv := conv_bs A c l w hp
  clear hp
  go_enter Tryz.func92, Tryz.ntmps92
  go_wp2
  go_ret
  exact ⟨rfl, rfl⟩

set_option maxHeartbeats 1000000 in
/-- stringTableAt, where there is a text. -/
theorem strAt_ok (gd : Nat) (v : Value) (l : List UInt8) (off x k : Nat) (w : World) (hd : w.cell? ⟨gd, 1, none⟩ = some v) (hb : BS w v l) (ho : off < l.length) (hu : Lib.uvarintDec (l.drop off) = (x, (k : Int))) (hk : 0 < k) (hx : off + k + x ≤ l.length) :
    Calls Tryz.prog 82 #[.pointer (some ⟨gd, 0, none⟩), .int .i64 (off : Int)] w fun e w' => e = .returned (.string ⟨((l.drop (off + k)).take x).toArray⟩) ∧ w = w' := by
  obtain ⟨A, c, rfl, hc, hm, hp⟩ := hb
  obtain ⟨g, o, rfl, hcell⟩ := hp (by omega)
  unfold maxLen at hm
  have U := Tryz.binary_Uvarint g (o + off) (l.length - off) (c - off) (l.drop off) w (by simp) (fun j hj => by
    have hj' : off + j < l.length := by simp at hj; omega
    have := hcell (off + j) hj'
    rw [← Nat.add_assoc] at this
    rw [this]
    simp)
  rw [hu] at U
  have H := Lib.hid U
  have hcn : ¬ c = off := by omega
  have hall : ∀ (A : Option Addr) (cc : Nat), (0 < x → A = some ⟨g, o + off + k, none⟩) → Calls Tryz.prog 92 #[.slice A x cc] w fun e w' => e = .returned (.string ⟨((l.drop (off + k)).take x).toArray⟩) ∧ w = w' := fun A cc hA =>
    asString_any A cc ((l.drop (off + k)).take x) x (by simp; omega) w (fun h0 => ⟨g, o + off + k, hA (by simp at h0; omega), fun j hj => by
      have hj' : off + k + j < l.length := by simp at hj; omega
      have := hcell (off + k + j) hj'
      rw [show o + (off + k + j) = o + off + k + j from by omega] at this
      rw [this]
      simp⟩)
  have HA := Lib.hid hall
  clear U hall hcell hp hu
  go_enter Tryz.func82, Tryz.ntmps82
  go_wp2_with fail
  refine (H.out).mono ?_
  rintro e w' ⟨rfl, rfl⟩
  by_cases hck : c - off = k
  · go_wp2_with fail
    refine (HA.out _ _ (fun h => by omega)).mono ?_
    rintro e w2 ⟨rfl, rfl⟩
    go_wp2
    go_ret
    exact ⟨rfl, rfl⟩
  · go_wp2_with fail
    refine (HA.out _ _ (fun _ => rfl)).mono ?_
    rintro e w2 ⟨rfl, rfl⟩
    go_wp2
    go_ret
    exact ⟨rfl, rfl⟩

set_option maxHeartbeats 1000000 in
/-- stringTableAt, behind the table or ahead of it. -/
theorem strAt_out (gd : Nat) (v : Value) (l : List UInt8) (off : Int) (a : Addr) (w : World) (hE : w.cell? ⟨0, 0, none⟩ = some (.iface 144 (.pointer (some a)))) (hd : w.cell? ⟨gd, 1, none⟩ = some v) (hb : BS w v l) (ho : off < 0 ∨ (l.length : Int) ≤ off) :
    Calls Tryz.prog 82 #[.pointer (some ⟨gd, 0, none⟩), .int .i64 off] w fun e w' => e = .panicked [{ v := .iface 144 (.pointer (some a)), recovered := false }] ∧ w = w' := by
  obtain ⟨A, c, rfl, hc, hm, hp⟩ := hb
  clear hp
  unfold maxLen at hm
  by_cases h0 : off < 0
  · clear ho
    go_enter Tryz.func82, Tryz.ntmps82
    go_wp2_with fail
    exact ⟨rfl, rfl, rfl⟩
  · have h5 : (l.length : Int) ≤ off := by omega
    clear ho
    go_enter Tryz.func82, Tryz.ntmps82
    go_wp2_with fail
    exact ⟨rfl, rfl, rfl⟩

set_option maxHeartbeats 1000000 in
/-- stringTableAt, where the length is cut off or is too great. -/
theorem strAt_bad (gd : Nat) (v : Value) (l : List UInt8) (off x : Nat) (k : Nat) (a : Addr) (w : World) (hE : w.cell? ⟨0, 0, none⟩ = some (.iface 144 (.pointer (some a)))) (hd : w.cell? ⟨gd, 1, none⟩ = some v) (hb : BS w v l) (ho : off < l.length) (hu : Lib.uvarintDec (l.drop off) = (x, (k : Int)))
    (hk : k = 0 ∨ (k + off ≤ l.length ∧ l.length < off + k + x)) (hx : x < 9223372036854775807) :
    Calls Tryz.prog 82 #[.pointer (some ⟨gd, 0, none⟩), .int .i64 (off : Int)] w fun e w' => e = .panicked [{ v := .iface 144 (.pointer (some a)), recovered := false }] ∧ w = w' := by
  obtain ⟨A, c, rfl, hc, hm, hp⟩ := hb
  obtain ⟨g, o, rfl, hcell⟩ := hp (by omega)
  unfold maxLen at hm
  have U := Tryz.binary_Uvarint g (o + off) (l.length - off) (c - off) (l.drop off) w (by simp) (fun j hj => by
    have hj' : off + j < l.length := by simp at hj; omega
    have := hcell (off + j) hj'
    rw [← Nat.add_assoc] at this
    rw [this]
    simp)
  rw [hu] at U
  have H := Lib.hid U
  have hcn : ¬ c = off := by omega
  clear U hcell hp hu
  by_cases h0 : k = 0
  · subst h0
    clear hk
    go_enter Tryz.func82, Tryz.ntmps82
    go_wp2_with fail
    refine (H.out).mono ?_
    rintro e w' ⟨rfl, rfl⟩
    go_wp2_with fail
    exact ⟨rfl, rfl, rfl⟩
  · obtain ⟨h1, h2⟩ : k + off ≤ l.length ∧ l.length < off + k + x := by omega
    have h3 : 0 < k := by omega
    clear hk h0
    go_enter Tryz.func82, Tryz.ntmps82
    go_wp2_with fail
    refine (H.out).mono ?_
    rintro e w' ⟨rfl, rfl⟩
    by_cases hck : c - off = k
    · go_wp2_with fail
      exact ⟨rfl, rfl, rfl⟩
    · go_wp2_with fail
      exact ⟨rfl, rfl, rfl⟩
end Go.Proofs.YtanfimeajalffaaGreatDoor
