/-
  Contracts of extractCgoDirectives and CgoLines: the lines that are directives of cgo. Conditions: a text of at most 1000000 bytes; the tables of Go's library that strings.TrimSpace reads, as they are laid.
-/
import Derived.Test.YtlbmdhpbogmkbaaDoorSplit
import Derived.Test.YtlbmdhpbogmkbaaDoorShelf
namespace Go.Proofs.YtlbmdhpbogmkbaaDoor
open Go.RowKit

/-- The tables that strings.TrimSpace reads. -/
def Tabs (w : World) : Prop := Lib.TabIs Tryd.prog w "strings.asciiSpace" .u8 Lib.asciiSpaceTab ∧ Lib.Utf8Tabs 2 3 w ∧ Lib.WhiteTab 1 w

theorem gSpace : Tryd.prog.globalNamed "strings.asciiSpace" = some 0 := by kernel_rfl

theorem Tabs.below {w w' : World} (h : Tabs w) (hb : Below w.heap.size w w') : Tabs w' := by
  refine ⟨?_, Utf8Tabs_below h.2.1 hb, WhiteTab_below h.2.2 hb⟩
  have hv := h.1
  unfold Lib.TabIs at hv ⊢
  refine var?_below hb gSpace ?_ hv
  unfold World.var? at hv
  simp only [gSpace, Option.bind_some] at hv
  rcases Nat.lt_or_ge 0 w.heap.size with h' | h'
  · exact h'
  · simp [Array.getElem?_eq_none h'] at hv

/-- A directive of cgo. -/
def isCgoL (l : List UInt8) : Bool := decide (5 ≤ l.length) && (l.take 4 == [35, 99, 103, 111]) && (l[4]? == some 32 || l[4]? == some 9)

def cgoOf (ls : List (List UInt8)) : List (List UInt8) := (ls.map Lib.trimSpaceD).filter isCgoL

theorem cgoOf_take_succ (ls : List (List UInt8)) (k : Nat) (hk : k < ls.length) : cgoOf (ls.take (k + 1)) = cgoOf (ls.take k) ++ (if isCgoL (Lib.trimSpaceD ls[k]) then [Lib.trimSpaceD ls[k]] else []) := by
  unfold cgoOf
  rw [List.take_succ_eq_append_getElem hk, List.map_append, List.filter_append]
  simp only [List.map_cons, List.map_nil, List.filter_cons, List.filter_nil]

theorem strCs_getElem (ls : List (List UInt8)) (k : Nat) (hk : k < ls.length) : (strCs ls)[k]? = some (.string ⟨(ls[k]).toArray⟩) := by
  simp [strCs, hk]

/-- The lines of a text fit into it. -/
theorem lines_length : ∀ (l : List UInt8), (lines l).length ≤ l.length + 1
  | [] => by simp [lines]
  | b :: r => by
    have h := lines_length r
    by_cases hb : b = 10
    · subst hb
      rw [lines_nl]
      simp
      omega
    · cases hl : lines r with
      | nil => exact absurd hl (lines_ne r)
      | cons x xs =>
        rw [lines_other hb hl]
        rw [hl] at h
        simp at h ⊢
        omega

theorem line_le : ∀ {l x : List UInt8}, x ∈ lines l → x.length ≤ l.length
  | [], x, h => by
    simp [lines] at h
    subst h
    simp
  | b :: r, x, h => by
    by_cases hb : b = 10
    · subst hb
      rw [lines_nl] at h
      rcases List.mem_cons.1 h with h | h
      · subst h; simp
      · have := line_le h
        simp
        omega
    · cases hl : lines r with
      | nil => exact absurd hl (lines_ne r)
      | cons y ys =>
        rw [lines_other hb hl] at h
        rcases List.mem_cons.1 h with h | h
        · subst h
          have := line_le (l := r) (x := y) (by rw [hl]; exact List.mem_cons_self)
          simp
          omega
        · have := line_le (l := r) (x := x) (by rw [hl]; exact List.mem_cons_of_mem _ h)
          simp
          omega

theorem cgoOf_length (ls : List (List UInt8)) : (cgoOf ls).length ≤ ls.length := by
  unfold cgoOf
  exact Nat.le_trans (List.length_filter_le _ _) (by simp)

/-- What a slice of texts that the call owns reads as. -/
theorem reads_own {w : World} {base n : Nat} {A : Option Addr} {c : Nat} {xs : List Value} (h : w.ownsRow base 9 1 (.slice A n c) n xs) : Reads w w.heap.size 1 A n xs := Reads.of_own h

theorem own_below {w w' : World} {base : Nat} {e : TypeId} {size n : Nat} {v : Value} {xs : List Value} (h : w.ownsRow base e size v n xs) (hb : Below w.heap.size w w') : w'.ownsRow base e size v n xs :=
  h.kept (row := none) ⟨hb.os, hb.tape, hb.output, hb.size, fun k hk _ => hb.block k hk⟩ (by cases v.ownBlock <;> simp)

theorem own_base {w : World} {base base' : Nat} {e : TypeId} {size n : Nat} {v : Value} {xs : List Value} (h : w.ownsRow base e size v n xs) (hb : base' ≤ base) : w.ownsRow base' e size v n xs := by
  refine ⟨h.1, ?_⟩
  rcases h.2 with h2 | ⟨g, cap, cur, hv, hg, r⟩
  · exact .inl h2
  · exact .inr ⟨g, cap, cur, hv, by omega, r⟩

theorem own_cell_new (w : World) (v : Value) (t : TypeId) : ∀ j u, [v][j]? = some u → (w.alloc (.cells #[v] t)).cell? ((⟨w.heap.size, 0, none⟩ : Addr).add j) = some u := by
  intro j u hj
  match j, hj with
  | 0, hj =>
    simp at hj
    subst hj
    simp [Addr.add, cell_of_row _ w.heap.size 0 _ t (0, 0) (heap_alloc_new w _)]

theorem one_oneCell (v : Value) (h : v.oneCell' = true) : ∀ u ∈ [v], u.oneCell' = true := by
  intro u hu
  simp at hu
  subst hu
  exact h

theorem own_form {w : World} {base : Nat} {e : TypeId} {size n : Nat} {v : Value} {xs : List Value} (h : w.ownsRow base e size v n xs) : ∃ A c, v = .slice A n c := by
  rcases h.2 with ⟨hv, h0⟩ | ⟨g, cap, cur, hv, _⟩
  · exact ⟨none, 0, by rw [hv, h0]⟩
  · exact ⟨_, _, hv⟩

set_option maxHeartbeats 4000000 in
theorem extract_any (s : ByteArray) (w : World) (hs : s.size ≤ 1000000) (ht : Tabs w) :
    Calls Tryd.prog 16 #[.string s] w fun e w' => ∃ A c, e = .returned (.slice A (cgoOf (lines s.data.toList)).length c) ∧
      w'.ownsRow w.heap.size 9 1 (.slice A (cgoOf (lines s.data.toList)).length c) (cgoOf (lines s.data.toList)).length (strCs (cgoOf (lines s.data.toList))) ∧ Below w.heap.size w w' := by
  obtain ⟨i0, hi0, hz0, hz1, hz2⟩ := info_parts string_info
  have hll := lines_length s.data.toList
  have hle : ∀ x ∈ lines s.data.toList, x.length ≤ 1000000 := fun x hx => by
    have := line_le hx
    simp at this
    omega
  go_enter Tryd.func16, Tryd.ntmps16
  go_wp2_with fail
  refine (zzSplit_any s w hs).mono ?_
  rintro e w1 ⟨A, c, rfl, hownl, hb1⟩
  have hrl := reads_own hownl
  generalize hL : lines s.data.toList = L at hownl hrl hll hle ⊢
  have HL := Lib.hid hL
  have hLl : L.length ≤ 1000001 := by simp at hll; omega
  clear hL hownl hll
  go_wp2_with fail
  go_loopw [3, 5, 9] (fun v _ i wr => ∃ k : Nat, k ≤ L.length ∧ i = .int .i64 k ∧ wr.ownsRow w1.heap.size 9 1 v (cgoOf (L.take k)).length (strCs (cgoOf (L.take k))) ∧ Below w1.heap.size w1 wr) (fun _ _ i _ => L.length - (intOf i).toNat)
  case atStart => exact ⟨0, Nat.zero_le _, rfl, World.ownsRow_nil _ _ _ _, Below.refl _ _⟩
  case round =>
    obtain ⟨k, hk, rfl, hown, hbw1⟩ := hrel
    have hszr1 := hbw1.size
    have hck := cgoOf_length (L.take k)
    have hckl : (cgoOf (L.take k)).length ≤ 1000001 := by simp at hck; omega
    clear hck
    by_cases hlt : k < L.length
    · obtain ⟨ad, u, rfl, hadb, hu, hc⟩ := (hrl.below hbw1).at_ hlt
      rw [strCs_getElem L k hlt] at hu
      injection hu with hu
      subst hu
      have hlk : (⟨(L[k]).toArray⟩ : ByteArray).size ≤ 1000000 := by
        show ((L[k]).toArray).size ≤ 1000000
        simpa using hle L[k] (List.getElem_mem hlt)
      have HS := Lib.hid (cgoOf_take_succ L k hlt)
      have e0 : (⟨(L[k]).toArray⟩ : ByteArray).data.toList = L[k] := by simp
      have htr := (ht.below hb1).below hbw1
      have HT := Lib.hid (Tryd.strings_TrimSpace_any ⟨(L[k]).toArray⟩ wr (by omega) htr.1 htr.2.1 htr.2.2)
      generalize (⟨(L[k]).toArray⟩ : ByteArray) = x at hc hlk HT e0
      rw [e0] at HT
      clear e0
      generalize htt : Lib.trimSpaceD L[k] = tl at HT HS
      clear htt hrl hle htr
      obtain ⟨t, rfl⟩ : ∃ t : ByteArray, tl = t.data.toList := ⟨⟨tl.toArray⟩, by simp⟩
      rw [ba_mk] at HT
      clear hlk
      have skip : isCgoL t.data.toList = false → ∀ w2, Below wr.heap.size wr w2 → w2.ownsRow w1.heap.size 9 1 u3 (cgoOf (L.take (k + 1))).length (strCs (cgoOf (L.take (k + 1)))) ∧ Below w1.heap.size w1 w2 := fun hf w2 hb2 => by
        have hown2 := own_below hown hb2
        refine ⟨?_, hbw1.trans (hb2.mono hszr1)⟩
        rw [HS.out, hf]
        simpa using hown2
      have SKIP := Lib.hid skip
      clear skip
      by_cases h5 : t.size < 5
      · have hf : isCgoL t.data.toList = false := by unfold isCgoL; simp; omega
        have SK := Lib.hid (SKIP.out hf)
        clear hf
        go_wp2_with fail
        refine (HT.out).mono ?_
        rintro e w2 ⟨rfl, hb2⟩
        go_wp2_with fail
        go_roundw
        case rel => exact ⟨k + 1, by omega, by go_num, SK.out w2 hb2⟩
        case measure => simp [intOf]; omega
      have h4s : 4 < t.size := by omega
      have h4 : (t.data.toList)[4]? = some (t[4]'h4s) := by rw [List.getElem?_eq_getElem (by simpa using h4s)]; rfl
      by_cases hp : t.data.toList.take 4 = [35, 99, 103, 111]
      · have hpt : ((t.extract 0 4).toList == [35, 99, 103, 111]) = true := by rw [Lib.toList_data, extract_toList]; simp [hp]
        by_cases hg : (t[4]'h4s).toNat = 32 ∨ (t[4]'h4s).toNat = 9
        · have hf : isCgoL t.data.toList = true := by
            unfold isCgoL
            rw [hp, h4]
            have h5' : 5 ≤ t.data.toList.length := by simp; omega
            rcases hg with h | h
            · have : t[4]'h4s = 32 := UInt8.toNat_inj.1 h
              simp [this]; omega
            · have : t[4]'h4s = 9 := UInt8.toNat_inj.1 h
              simp [this]; omega
          rw [hf] at HS
          clear hf hp h4
          have hfin : ∀ (w3 : World) (v3 : Value), w3.ownsRow w1.heap.size 9 1 v3 ((cgoOf (L.take k)).length + 1) (strCs (cgoOf (L.take k)) ++ [Value.string t]) → w3.ownsRow w1.heap.size 9 1 v3 (cgoOf (L.take (k + 1))).length (strCs (cgoOf (L.take (k + 1)))) := fun w3 v3 h => by
            rw [HS.out, if_pos rfl, strCs_snoc, List.length_append]
            exact h
          have HFIN := Lib.hid hfin
          clear hfin
          rcases hg with hg | hg
          all_goals
            go_wp2_with fail
            refine (HT.out).mono ?_
            rintro e w2 ⟨rfl, hb2⟩
            have hown2 := own_below hown hb2
            have hbw2 := hbw1.trans (hb2.mono hszr1)
            have hsz2 := hbw2.size
            go_wp2_with (at_builtin; refine wpList_append_own _ rfl (.tmp 33) (.tmp 35) _ rfl w1.heap.size 9 i0 (.string ByteArray.empty) 1 16 Tryd.underlying24 hi0 hz0 hz1 hz2 rfl (by decide) _ _ _ rfl (hown2.alloc _) ⟨w2.heap.size, 0, none⟩ 1 1 [Value.string t] rfl rfl (own_cell_new _ _ _) (one_oneCell _ rfl) (by unfold maxLen; omega) (by omega) (by simp; omega) ?_; intro v3 w3 hown3 hgrow3 _)
            have hown4 := HFIN.out w3 v3 hown3
            have hbw3 : Below w1.heap.size w1 w3 := (hbw2.alloc hsz2 _).grown hgrow3 (by simp; omega) (fun j hj => (hown2.lt j hj).1)
            clear hown3 hgrow3 hown2 hown
            have HO4 := Lib.hid hown4
            clear hown4
            go_wp2_with fail
            go_roundw
            case rel => exact ⟨k + 1, by omega, by go_num, HO4.out, hbw3⟩
            case measure => simp [intOf]; omega
        · have hf : isCgoL t.data.toList = false := by
            unfold isCgoL
            rw [h4]
            have h1 : (t[4]'h4s) ≠ 32 := fun e => hg (.inl (by rw [e]; rfl))
            have h2 : (t[4]'h4s) ≠ 9 := fun e => hg (.inr (by rw [e]; rfl))
            simp [h1, h2]
          have SK := Lib.hid (SKIP.out hf)
          obtain ⟨g1, g2⟩ : (t[4]'h4s).toNat ≠ 32 ∧ (t[4]'h4s).toNat ≠ 9 := ⟨fun e => hg (.inl e), fun e => hg (.inr e)⟩
          have n1 : ((((t[4]'h4s).toNat : Nat) : Int) != 32) = true := by rw [bne_iff_ne]; omega
          have n2 : ((((t[4]'h4s).toNat : Nat) : Int) != 9) = true := by rw [bne_iff_ne]; omega
          clear hf hg hp h4 g1 g2
          go_wp2_with fail
          refine (HT.out).mono ?_
          rintro e w2 ⟨rfl, hb2⟩
          go_wp2_with fail
          go_roundw
          case rel => exact ⟨k + 1, by omega, by go_num, SK.out w2 hb2⟩
          case measure => simp [intOf]; omega
      · have hf : isCgoL t.data.toList = false := by
          unfold isCgoL
          simp [hp]
        have SK := Lib.hid (SKIP.out hf)
        have hpt : ((t.extract 0 4).toList == [35, 99, 103, 111]) = false := by rw [Lib.toList_data, extract_toList]; simpa using hp
        clear hf hp h4
        go_wp2_with fail
        refine (HT.out).mono ?_
        rintro e w2 ⟨rfl, hb2⟩
        go_wp2_with fail
        go_roundw
        case rel => exact ⟨k + 1, by omega, by go_num, SK.out w2 hb2⟩
        case measure => simp [intOf]; omega
    · obtain ⟨A', c', hv⟩ := own_form hown
      have hkl : L.take k = L := List.take_of_length_le (by omega)
      rw [hkl] at hown hv
      have HO := Lib.hid (own_base hown hb1.size)
      have HV := Lib.hid hv
      clear hkl hown hv
      go_wp2_with fail
      go_ret
      rw [HL.out]
      exact ⟨A', c', by rw [← HV.out]; rfl, by rw [← HV.out]; exact HO.out, hb1.trans (hbw1.mono hb1.size)⟩
end Go.Proofs.YtlbmdhpbogmkbaaDoor
