/-
  The contract of impl.Decode on an index. Conditions: the bytes are an index of packages (IndexIs).
-/
import Derived.Test.YtanfimeajalffaaGreatDoorZZDec
import Derived.Test.YtanfimeajalffaaGreatDoorToldPkg
import Derived.Test.YtanfimeajalffaaGreatDoorMore
namespace Go.Proofs.YtanfimeajalffaaGreatDoor
open Go.RowKit
attribute [local go_sem ↓] Go.wp_at_zero Go.wp_at_succ

/-- Packages as an index tells them, and that it is one. -/
def Told (ps : List PkgD) (w : World) (e : Ending) (w' : World) : Prop :=
  ∃ A c, e = .returned (.tuple #[.slice A ps.length c, .bool true]) ∧ ListOwn w' w.heap.size 32 3 (PkgT w' w'.heap.size 43 101) (.slice A ps.length c) ps ∧ Below w.heap.size w w'

set_option maxHeartbeats 4000000 in
set_option maxRecDepth 100000 in
theorem implDecode_ok (v : Value) (l : List UInt8) (ps : List PkgD) (w : World) (hb : BS w v l) (hi : IndexIs l ps) (hn : ps.length ≤ 10) (hok : ∀ p ∈ ps, p.Ok) (hs : l.length ≤ 100000000) :
    Calls Tryz.prog 9 #[v] w (Told ps w) := by
  obtain ⟨i0, hi0, hz0, hz1, hz2⟩ := info_parts' byte_info
  obtain ⟨i1, hi1, hz3, hz4, hz5⟩ := info_parts' ipkg_info
  obtain ⟨A, c, rfl, hA⟩ := id hb
  clear hA
  have HB := Lib.hid hb
  have HOK := Lib.hid hok
  have HC := Lib.hid (fun (v : Value) (W : World) (h : BS W v l) => zzDecode_ok v l ps W h hi hn hok)
  clear hb hi hok
  go_enter Tryz.func9, Tryz.ntmps9
  go_wp2_with (at_builtin; refine wpList_append_any _ rfl (.tmp 10) (.tmp 11) _ rfl w.heap.size 5 i0 _ 1 1 Tryz.underlying26 hi0 hz0 hz1 hz2 rfl (by omega) (.slice (some ⟨w.heap.size, 0, none⟩) 0 0) 0 [] rfl (World.ownsRow_made w #[] 0 (Nat.le_refl _) (by simp [maxLen]) rfl) _ A l.length c (Lib.byteCells l) rfl (reads_of_bs (HB.out.below ((Below.refl _ _).alloc (Nat.le_refl _) _))) (byteCells_oneCell l) (by simp only [maxLen]; omega) (by omega) (by simp) ?_; intro v1 w1 hown1 hg1 hat1)
  have hb1 : BS w1 v1 l := bs_of_own (by simpa using hown1)
  have hbw : Below w.heap.size w w1 := ((Below.refl _ _).alloc (Nat.le_refl _) _).grown hg1 (by simp) (by simp [Value.ownBlock])
  refine (HC.out v1 w1 hb1).mono ?_
  rintro e w2 ⟨v2, rfl, ho2, hb2⟩
  have hbel := hbw.trans (hb2.mono hbw.size)
  have hsz := hbel.size
  have hpa : PkgsAt w2 w2.heap.size v2 ps := ho2.t.at_.imp fun _ _ h => h.r
  obtain ⟨A2, c2, rfl⟩ := ListAt.form hpa
  have HPA := Lib.hid hpa
  have hown0 : ListOwn (w2.alloc (.cells #[] 32)) w2.heap.size 32 3 (PkgT (w2.alloc (.cells #[] 32)) (w2.alloc (.cells #[] 32)).heap.size 43 101) (.slice (some ⟨w2.heap.size, 0, none⟩) 0 0) (ps.take 0) :=
    ⟨[], World.ownsRow_made w2 #[] 0 (Nat.le_refl _) (by simp [maxLen]) rfl, rfl, (fun cs h => by cases h), (fun i cs x h => by simp at h)⟩
  have HO0 := Lib.hid hown0
  have HBEL := Lib.hid hbel
  clear hown1 hg1 hat1 hb1 hbw hb2 ho2 hpa hown0 hbel
  go_wp2_with fail
  go_loopw [6, 19] (fun v i wr => ∃ k : Nat, k ≤ ps.length ∧ i = .int .i64 k ∧ ListOwn wr w2.heap.size 32 3 (PkgT wr wr.heap.size 43 101) v (ps.take k) ∧ Below w2.heap.size w2 wr) (fun _ i _ => ps.length - (intOf i).toNat)
  case atStart => exact ⟨0, Nat.zero_le _, rfl, HO0.out, (Below.refl _ _).alloc (Nat.le_refl _) _⟩
  case round =>
    clear HO0
    obtain ⟨k, hk, rfl, hown, hF⟩ := hrel
    have hszr := hF.size
    by_cases hlt : k < ps.length
    · have hpr := PkgsAt.below HPA.out hF
      obtain ⟨gp, op, cs, rfl, hgp, _, ⟨vf, rfl, hfs⟩, hcell⟩ := hpr.get (by omega) k hlt
      have c0 : wr.cell? ⟨gp, op + k * 3, none⟩ = some (.string ps[k].err) := hcell 0 _ rfl
      have c1 : wr.cell? ⟨gp, op + k * 3 + 1, none⟩ = some (.string ps[k].dir) := hcell 1 _ rfl
      have c2 : wr.cell? ⟨gp, op + k * 3 + 2, none⟩ = some vf := hcell 2 _ rfl
      have hokp := HOK.out _ (List.getElem_mem hlt)
      have hts := Lib.hid (take_snoc' ps k hlt)
      generalize ps[k] = p at *
      have hwx : Below w2.heap.size wr (wr.alloc (.cells #[.string p.err, .string p.dir, vf] 52)) := (Below.refl _ _).alloc hszr _
      have CT := Lib.hid (toldPackage_any w2.heap.size [.string p.err, .string p.dir, vf] p (wr.alloc (.cells #[.string p.err, .string p.dir, vf] 52)) (by simp; omega) hokp ⟨vf, rfl, hfs.files_below hwx⟩)
      obtain ⟨Af, cf, rfl⟩ := hfs.form
      have HOWN := Lib.hid hown
      clear hcell hfs hpr hokp hown hwx
      go_wp2_with fail
      refine CT.out.mono ?_
      rintro e w6 ⟨Ax, cx, rfl, ⟨vy, hvy, hft⟩, hb6⟩
      obtain rfl : vy = .slice Ax p.files.length cx := by injection hvy with _ h; injection h with _ h; injection h with h _; exact h.symm
      have hb56 : Below wr.heap.size wr w6 := ((Below.refl _ _).alloc (Nat.le_refl _) _).trans (hb6.mono (by simp))
      have hsz6 : wr.heap.size ≤ w6.heap.size := hb56.size
      obtain ⟨css, o1, o2, o3, o4⟩ := HOWN.out
      have htl : (ps.take k).length = k := List.length_take_of_le (by omega)
      rw [htl] at o1 o2
      have hoW := (own_below o1 hb56).alloc (.cells #[.string p.err, .string p.dir, .slice Ax p.files.length cx] 32)
      have hnew := cells_new w6 #[.string p.err, .string p.dir, .slice Ax p.files.length cx] 32 w6.heap.size rfl
      have O4 := Lib.hid o4
      have HOX := Lib.hid hft
      have HB56 := Lib.hid hb56
      clear o1 o4 hft hb6 hb56 CT hvy
      go_wp2_with (at_builtin; refine wpList_append_own_at _ rfl (.tmp 23) (.tmp 26) _ rfl w2.heap.size 32 i1 _ 3 56 Tryz.underlying22 hi1 hz3 hz4 hz5 rfl (by decide) _ k css.flatten rfl hoW ⟨w6.heap.size, 0, none⟩ 1 1 [.string p.err, .string p.dir, .slice Ax p.files.length cx] rfl rfl hnew (by intro u hu; simp only [List.mem_cons, List.not_mem_nil, or_false] at hu; rcases hu with rfl | rfl | rfl <;> rfl) (by unfold maxLen; omega) (by omega) (by simp; omega) ?_; intro v4 w4 hown4 hgrow4 _ hat4)
      have hS1 : SameOn [32] w6.heap.size w6 w4 := (SameOn.below ((Below.refl w6.heap.size w6).alloc (Nat.le_refl _) _) (Nat.le_refl _)).trans (SameOn.own hoW hgrow4 (by decide))
      have hS0 : SameOn [32] wr.heap.size wr w4 := (SameOn.below HB56.out (Nat.le_refl _)).trans (hS1.less hsz6)
      have hsz4 : w6.heap.size ≤ w4.heap.size := by have := hgrow4.size; simp at this; omega
      have hL : ListOwn w4 w2.heap.size 32 3 (PkgT w4 w4.heap.size 43 101) v4 (ps.take (k + 1)) := by
        rw [hts.out]
        refine ListOwn.snoc (cs := [.string p.err, .string p.dir, .slice Ax p.files.length cx]) (css := css) ?_ (by rw [o2, htl]) o3 (fun i cs x a b => ((O4.out i cs x a b).same hS0 (by decide) (by decide) (by decide)).more (by omega)) rfl ?_
        · rw [htl]
          exact hown4
        · exact ⟨_, rfl, ((HOX.out.same hS1 (by decide)).more hsz4).imp fun _ _ h => (h.same hS1 (by decide) (by decide)).more hsz4⟩
      have hFF : Below w2.heap.size w2 w4 := ((hF.trans (HB56.out.mono hszr)).alloc (by omega) _).grown hgrow4 (by simp; omega) (fun j hj => (hoW.lt j hj).1)
      have HL2 := Lib.hid hL
      have HFF := Lib.hid hFF
      clear hL hFF hS1 hS0 hown4 hgrow4 hat4 hoW hnew c0 c1 c2
      go_roundw
      case rel => exact ⟨k + 1, by omega, by go_num, HL2.out, HFF.out⟩
      case measure => simp [intOf]; omega
    · have hkl : k = ps.length := by omega
      subst hkl
      rw [List.take_length] at hown
      obtain ⟨A6, c6, rfl⟩ : ∃ A c, u6 = .slice A ps.length c := ListAt.form hown.t.at_
      have HOWN := Lib.hid hown
      clear hown
      go_wp2_with fail
      go_quiet (fail)
      go_wp2_with fail
      go_ret2
      exact ⟨A6, c6, rfl, ListOwn.less HOWN.out hsz, below_dn (HBEL.out.trans (hF.mono hsz)) _⟩
end Go.Proofs.YtanfimeajalffaaGreatDoor
