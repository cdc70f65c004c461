/-
  Contracts of zzIndex and zzSplit at a newline. Conditions: a text of at most 1000000 bytes.
-/
import Derived.Test.YtlbmdhpbogmkbaaDoorRows
import Derived.Test.YtlbmdhpbogmkbaaDoorWords
import Derived.WalkKit
import Derived.WalkSpells
import Derived.WalkLawsBesides
import Derived.Lib.Hide
import Derived.Outline
import Derived.Deep.LoopGhost
import Derived.Lib.Strings
import Derived.Lib.IndexBytes
namespace Go.Proofs.YtlbmdhpbogmkbaaDoor
open Go.RowKit

/-- The place of the first newline. -/
def nlAt : List UInt8 → Option Nat
  | [] => none
  | b :: r => if b = 10 then some 0 else (nlAt r).map (· + 1)

/-- The lines of a text. -/
def lines : List UInt8 → List (List UInt8)
  | [] => [[]]
  | b :: r =>
    if b = 10 then [] :: lines r
    else match lines r with
      | [] => [[b]]
      | x :: xs => (b :: x) :: xs

theorem nlAt_cons (b : UInt8) (r : List UInt8) : nlAt (b :: r) = if b = 10 then some 0 else (nlAt r).map (· + 1) := rfl
theorem lines_nl (r : List UInt8) : lines (10 :: r) = [] :: lines r := by
  have e : lines (10 :: r) = if (10 : UInt8) = 10 then [] :: lines r else match lines r with
      | [] => [[10]]
      | x :: xs => (10 :: x) :: xs := rfl
  rw [e, if_pos rfl]
theorem lines_other {b : UInt8} (hb : ¬ b = 10) {r x : List UInt8} {xs : List (List UInt8)} (h : lines r = x :: xs) : lines (b :: r) = (b :: x) :: xs := by
  have e : lines (b :: r) = if b = 10 then [] :: lines r else match lines r with
      | [] => [[b]]
      | x :: xs => (b :: x) :: xs := rfl
  rw [e, if_neg hb, h]

theorem lines_ne (l : List UInt8) : lines l ≠ [] := by
  cases l with
  | nil => simp [lines]
  | cons b r =>
    unfold lines
    split
    · simp
    · split <;> simp

theorem lines_none : ∀ {l : List UInt8}, nlAt l = none → lines l = [l]
  | [], _ => rfl
  | b :: r, h => by
    unfold nlAt at h
    split at h
    · cases h
    · rename_i hb
      have hr : nlAt r = none := by
        cases hx : nlAt r with
        | none => rfl
        | some x => rw [hx] at h; cases h
      exact lines_other hb (lines_none hr)

theorem lines_some : ∀ {l : List UInt8} {i : Nat}, nlAt l = some i → lines l = l.take i :: lines (l.drop (i + 1))
  | [], _, h => by cases h
  | b :: r, i, h => by
    unfold nlAt at h
    split at h
    · rename_i hb
      injection h with h
      subst h
      subst hb
      exact lines_nl r
    · rename_i hb
      cases hx : nlAt r with
      | none => rw [hx] at h; cases h
      | some x =>
        rw [hx] at h
        injection h with h
        subst h
        exact lines_other hb (lines_some hx)

/-- What is known behind k bytes without a newline. -/
theorem nlAt_drop (l : List UInt8) : ∀ (k : Nat), k ≤ l.length → (∀ j (hj : j < l.length), j < k → l[j] ≠ 10) → nlAt l = (nlAt (l.drop k)).map (· + k) := by
  intro k
  induction k with
  | zero => intro _ _; simp
  | succ k ih =>
    intro hk hno
    have hkl : k < l.length := by omega
    rw [ih (by omega) (fun j hj hjk => hno j hj (by omega)), List.drop_eq_getElem_cons hkl]
    have h10 : l[k] ≠ 10 := hno k hkl (by omega)
    rw [nlAt_cons, if_neg h10, Option.map_map]
    congr 1
    funext x
    simp
    omega

theorem nlAt_at {l : List UInt8} {k : Nat} (hk : k < l.length) (hno : ∀ j (hj : j < l.length), j < k → l[j] ≠ 10) (h10 : l[k] = 10) : nlAt l = some k := by
  rw [nlAt_drop l k (by omega) hno, List.drop_eq_getElem_cons hk, nlAt_cons, if_pos h10]
  simp

theorem nlAt_end {l : List UInt8} (hno : ∀ j (hj : j < l.length), l[j] ≠ 10) : nlAt l = none := by
  rw [nlAt_drop l l.length (Nat.le_refl _) (fun j hj _ => hno j hj), List.drop_length]
  rfl

theorem nlAt_lt : ∀ {l : List UInt8} {i : Nat}, nlAt l = some i → i < l.length
  | [], _, h => by cases h
  | b :: r, i, h => by
    unfold nlAt at h
    split at h
    · injection h with h
      subst h
      simp
    · cases hx : nlAt r with
      | none => rw [hx] at h; cases h
      | some x =>
        rw [hx] at h
        injection h with h
        subst h
        have := nlAt_lt hx
        simp
        omega

theorem extract_toList (s : ByteArray) (a b : Nat) : (s.extract a b).data.toList = (s.data.toList.drop a).take (b - a) := by
  rw [ByteArray.data_extract, Array.toList_extract]

/-- The index that Go tells: -1 where there is none. -/
def nlInt (l : List UInt8) : Int := match nlAt l with
  | some i => (i : Int)
  | none => -1

abbrev nlS : ByteArray := { data := #[10] }

set_option maxHeartbeats 1000000 in
theorem zzIndex_any (s : ByteArray) (w : World) (hs : s.size ≤ 1000000) :
    Calls Tryd.prog 19 #[.string s, .string nlS] w fun e w' => e = .returned (.int .i64 (nlInt s.data.toList)) ∧ w = w' := by
  go_enter Tryd.func19, Tryd.ntmps19
  go_wp2
  go_loop [5] (fun i => ∃ k : Nat, k ≤ s.size ∧ i = .int .i64 k ∧ ∀ j (hj : j < s.data.toList.length), j < k → s.data.toList[j] ≠ 10) (fun i => s.size + 1 - (intOf i).toNat)
  case atStart => exact ⟨0, Nat.zero_le _, rfl, fun j hj h => absurd h (by omega)⟩
  case round =>
    obtain ⟨k, hk, rfl, hno⟩ := hrel
    have HNO := Lib.hid hno
    clear hno
    by_cases hlt : k < s.size
    · have hkl : k < s.data.toList.length := by simpa using hlt
      have hx : (s.extract k (k + 1)).toList = [s.data.toList[k]] := by
        rw [Lib.toList_data, extract_toList, List.drop_eq_getElem_cons hkl]
        simp
      by_cases h10 : s.data.toList[k] = 10
      · have ht : ((s.extract k (k + 1)).toList == [10]) = true := by rw [hx, h10]; rfl
        clear hx
        go_wp2
        go_ret
        refine ⟨?_, rfl⟩
        unfold nlInt
        rw [nlAt_at hkl HNO.out h10]
        rfl
      · have ht : ((s.extract k (k + 1)).toList == [10]) = false := by rw [hx]; simpa using h10
        clear hx
        have H10 := Lib.hid h10
        clear h10
        go_wp2
        go_round
        case rel =>
          refine ⟨k + 1, by omega, by go_num, fun j hj hjk => ?_⟩
          rcases Nat.lt_or_ge j k with h | h
          · exact HNO.out j hj h
          · obtain rfl : j = k := by omega
            exact H10.out
        case measure => simp [intOf]; omega
    · go_wp2
      go_ret
      refine ⟨?_, rfl⟩
      unfold nlInt
      rw [nlAt_end (fun j hj => HNO.out j hj (by simp at hj; omega))]
      rfl

theorem string_info : (Tryd.prog.info? 9).map (fun i => (i.zero, i.size, i.bytes)) = some (some (.string ByteArray.empty), 1, 16) := by kernel_rfl

/-- Texts as cells. -/
def strCs (ls : List (List UInt8)) : List Value := ls.map fun l => Value.string ⟨l.toArray⟩

theorem strCs_append (a b : List (List UInt8)) : strCs (a ++ b) = strCs a ++ strCs b := by simp [strCs]
theorem strCs_oneCell (ls : List (List UInt8)) : ∀ u ∈ strCs ls, u.oneCell' = true := by
  intro u hu
  simp only [strCs, List.mem_map] at hu
  obtain ⟨b, _, rfl⟩ := hu
  rfl

theorem strCs_snoc (pre : List (List UInt8)) (s : ByteArray) : strCs (pre ++ [s.data.toList]) = strCs pre ++ [Value.string s] := by
  rw [strCs_append]
  simp [strCs]

theorem ba_mk (s : ByteArray) : (⟨s.data.toList.toArray⟩ : ByteArray) = s := by simp

set_option maxHeartbeats 2000000 in
theorem zzSplit_any (s : ByteArray) (w : World) (hs : s.size ≤ 1000000) :
    Calls Tryd.prog 17 #[.string s, .string nlS] w fun e w' => ∃ A c, e = .returned (.slice A (lines s.data.toList).length c) ∧
      w'.ownsRow w.heap.size 9 1 (.slice A (lines s.data.toList).length c) (lines s.data.toList).length (strCs (lines s.data.toList)) ∧ Below w.heap.size w w' := by
  obtain ⟨i0, hi0, hz0, hz1, hz2⟩ := info_parts string_info
  go_enter Tryd.func17, Tryd.ntmps17
  go_wp2_with fail
  go_loopw [0, 5, 6] (fun sv v _ wr => ∃ (r : ByteArray) (pre : List (List UInt8)), sv = .string r ∧ r.size ≤ s.size ∧ pre.length + r.size ≤ s.size ∧ lines s.data.toList = pre ++ lines r.data.toList ∧ wr.ownsRow w.heap.size 9 1 v pre.length (strCs pre) ∧ Below w.heap.size w wr)
    (fun sv _ _ _ => match sv with | .string r => r.size | _ => 0)
  case atStart => exact ⟨s, [], rfl, Nat.le_refl _, by simp, rfl, World.ownsRow_nil _ _ _ _, Below.refl _ _⟩
  case round =>
    obtain ⟨r, pre, rfl, hr, hpr, hl, hown, hnx⟩ := hrel
    have HL := Lib.hid hl
    clear hl
    have hszr := hnx.size
    go_wp2_with fail
    refine (zzIndex_any r wr (by omega)).mono ?_
    rintro e w' ⟨rfl, rfl⟩
    cases hx : nlAt r.data.toList with
    | none =>
      have hi : nlInt r.data.toList = -1 := by unfold nlInt; rw [hx]
      have hls : lines s.data.toList = pre ++ [r.data.toList] := by rw [HL.out, lines_none hx]
      rw [hi]
      clear hi hx
      have HLS := Lib.hid hls
      clear hls
      go_wp2_with (at_builtin; refine wpList_append_own _ rfl (.tmp 12) (.tmp 14) _ rfl w.heap.size 9 i0 (.string ByteArray.empty) 1 16 Tryd.underlying24 hi0 hz0 hz1 hz2 rfl (by decide) _ _ _ rfl (hown.alloc _) ⟨wr.heap.size, 0, none⟩ 1 1 [Value.string r] rfl rfl ?c1 ?c2 ?c3 ?c4 ?c5 ?_)
      case c1 =>
        intro j u hj
        match j, hj with
        | 0, hj => simp at hj; subst hj; simp [Addr.add]
      case c2 => intro u hu; simp at hu; subst hu; rfl
      case c3 => unfold maxLen; omega
      case c4 => omega
      case c5 => simp; omega
      intro v' w1 hown' hgrow _
      have hnx1 : Below w.heap.size w w1 := (hnx.alloc hszr _).grown hgrow (by simp; omega) (fun k hk => (hown.lt k hk).1)
      have hfin : w1.ownsRow w.heap.size 9 1 v' (lines s.data.toList).length (strCs (lines s.data.toList)) := by
        rw [HLS.out, strCs_append, List.length_append]
        simpa [strCs] using hown'
      have hform : ∃ A c, v' = .slice A (lines s.data.toList).length c := by
        rcases hfin.2 with ⟨hv, h0⟩ | ⟨g, cap, cur, hv, _⟩
        · exact ⟨none, 0, by rw [hv, h0]⟩
        · exact ⟨_, _, hv⟩
      obtain ⟨A, c, hv⟩ := hform
      have HF := Lib.hid hfin
      have HV := Lib.hid hv
      clear hfin hv hown' hgrow hown
      go_wp2
      go_ret
      exact ⟨A, c, by rw [HV.out]; rfl, by rw [← HV.out]; exact HF.out, hnx1⟩
    | some i =>
      have hi : nlInt r.data.toList = (i : Int) := by unfold nlInt; rw [hx]
      have hil : i < r.size := by simpa using nlAt_lt hx
      have hls : lines s.data.toList = (pre ++ [(r.extract 0 i).data.toList]) ++ lines (r.extract (i + 1) r.size).data.toList := by
        rw [HL.out, lines_some hx, extract_toList, extract_toList]
        simp only [List.drop_zero, Nat.sub_zero, List.append_assoc, List.singleton_append]
        congr 3
        rw [List.take_of_length_le (by simp)]
      have hsz2 : (r.extract (i + 1) r.size).size = r.size - (i + 1) := by simp
      rw [hi]
      clear hi hx
      have HLS := Lib.hid hls
      have HZ := Lib.hid hsz2
      clear hls hsz2
      go_wp2_with (at_builtin; refine wpList_append_own _ rfl (.tmp 16) (.tmp 20) _ rfl w.heap.size 9 i0 (.string ByteArray.empty) 1 16 Tryd.underlying24 hi0 hz0 hz1 hz2 rfl (by decide) _ _ _ rfl (hown.alloc _) ⟨wr.heap.size, 0, none⟩ 1 1 [Value.string (r.extract 0 i)] rfl rfl ?d1 ?d2 ?d3 ?d4 ?d5 ?_)
      case d1 =>
        intro j u hj
        match j, hj with
        | 0, hj => simp at hj; subst hj; simp [Addr.add]
      case d2 => intro u hu; simp at hu; subst hu; rfl
      case d3 => unfold maxLen; omega
      case d4 => omega
      case d5 => simp; omega
      intro v' w1 hown' hgrow _
      have hnx1 : Below w.heap.size w w1 := (hnx.alloc hszr _).grown hgrow (by simp; omega) (fun k hk => (hown.lt k hk).1)
      have hfin : w1.ownsRow w.heap.size 9 1 v' (pre ++ [(r.extract 0 i).data.toList]).length (strCs (pre ++ [(r.extract 0 i).data.toList])) := by
        rw [strCs_snoc, List.length_append]
        exact hown'
      have HF := Lib.hid hfin
      clear hfin hown' hgrow hown
      go_wp2
      go_roundw
      case rel => exact ⟨_, _, rfl, by rw [HZ.out]; omega, by rw [HZ.out]; simp; omega, HLS.out, HF.out, hnx1⟩
      case measure =>
        show (r.extract (i + 1) r.size).size < r.size
        rw [HZ.out]
        omega
end Go.Proofs.YtlbmdhpbogmkbaaDoor
