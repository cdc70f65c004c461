/-
  The contract of encodePackage. Condition: a package within the law's bounds, that lies ahead of what the encoder owns.
-/
import Derived.Test.YtanfimeajalffaaDoorEncFile
namespace Go.Proofs.YtanfimeajalffaaDoor
open Go.RowKit

theorem strs_b (es : ES) (ss : List ByteArray) : (es.strs ss).b.length = es.b.length + 4 * ss.length := by
  induction ss generalizing es with
  | nil => rfl
  | cons s r ih =>
    show ((es.str s).strs r).b.length = _
    rw [ih, str_b, List.length_cons]
    omega
theorem int_b (es : ES) (n : Nat) : (es.int n).b.length = es.b.length + 4 := by
  show (es.b ++ Lib.leBytes 4 n).length = _
  rw [List.length_append, le_len]
theorem pos_b (es : ES) (p : PosD) : (es.pos p).b.length = es.b.length + 16 := by
  unfold ES.pos
  rw [int_b, int_b, int_b, str_b]
theorem dirs_b (es : ES) (ds : List DirD) : (es.dirs ds).b.length = es.b.length + 20 * ds.length := by
  induction ds generalizing es with
  | nil => rfl
  | cons d r ih =>
    show ((es.dir d).dirs r).b.length = _
    rw [ih, ES.dir, pos_b, str_b, List.length_cons]
    omega
theorem file_b (es : ES) (f : FileD) : (es.file f).b.length = es.b.length + (52 + 4 * f.cons.length + 20 * f.imps.length + 20 * f.embs.length + 20 * f.dirs.length) := by
  simp only [ES.file, ES.head, dirs_b, int_b, strs_b, str_b]
  omega

def ES.zeros (es : ES) : Nat → ES
  | 0 => es
  | n + 1 => (es.zeros n).int 0
theorem zeros_b (es : ES) (n : Nat) : (es.zeros n).b.length = es.b.length + 4 * n := by
  induction n with
  | zero => rfl
  | succ n ih =>
    show ((es.zeros n).int 0).b.length = _
    rw [int_b, ih]
    omega
def ES.patch (es : ES) (a n : Nat) : ES := { es with b := Go.Proofs.YtanfimeajalffaaDoor.patch es.b a n }

/-- The files of a package behind the places that are kept for where they begin. -/
def ES.filesTo (es : ES) (pos : Nat) (fs : List FileD) : Nat → ES
  | 0 => es
  | k + 1 => match fs[k]? with
    | some f => ((es.filesTo pos fs k).patch (pos + 4 * k) (es.filesTo pos fs k).b.length).file f
    | none => es.filesTo pos fs k
theorem filesTo_succ (es : ES) (pos : Nat) (fs : List FileD) (k : Nat) (hk : k < fs.length) : es.filesTo pos fs (k + 1) = ((es.filesTo pos fs k).patch (pos + 4 * k) (es.filesTo pos fs k).b.length).file fs[k] := by
  show (match fs[k]? with | some f => _ | none => _) = _
  rw [List.getElem?_eq_getElem hk]

def ES.pre (es : ES) (p : PkgD) : ES := ((es.str p.err).str p.dir).int p.files.length
def ES.pkg (es : ES) (p : PkgD) : ES := ((es.pre p).zeros p.files.length).filesTo (es.pre p).b.length p.files p.files.length

theorem patchG (base E kb kt n a : Nat) (es : ES) (w : World) (hn : n < 2147483648) (ha : a + 4 ≤ es.b.length) (hkb : kb ≤ 100000000) (h : EG w base E es kb kt) :
    Calls Tryd.prog 45 #[.pointer (some ⟨E, 0, none⟩), .int .i64 (n : Int), .int .i64 (a : Int)] w fun e w' => e = .returned (.tuple #[]) ∧ EG w' base E (es.patch a n) kb kt ∧ Fr base E w w' := by
  obtain ⟨h1, h2, h3, h4⟩ := h
  refine (encIntAt_any base E n a es w hn ha (by omega) h1).mono ?_
  rintro e w' ⟨rfl, hE, hB⟩
  exact ⟨rfl, ⟨hE, h2, by show (Go.Proofs.YtanfimeajalffaaDoor.patch es.b a n).length ≤ _; rw [patch_length]; exact h3, h4⟩, hB⟩

/-- A file, and a package, as the encoder's input has them: behind pointers. -/
def RawFileAt (w : World) (B : Nat) (u : Value) (f : FileD) : Prop := ∃ g cs, u = .pointer (some ⟨g, 0, none⟩) ∧ g < B ∧ Blk w g 76 cs.toArray ∧ FileR w B cs f
def RawFilesAt (w : World) (B : Nat) (v : Value) (fs : List FileD) : Prop := ∃ A c us, v = .slice A fs.length c ∧ Reads w B 1 A fs.length us ∧ ∀ (i : Nat) (u : Value) (f : FileD), us[i]? = some u → fs[i]? = some f → RawFileAt w B u f
def RawPkgAt (w : World) (B : Nat) (u : Value) (p : PkgD) : Prop := ∃ g vf, u = .pointer (some ⟨g, 0, none⟩) ∧ g < B ∧ Blk w g 71 #[.string p.err, .string p.dir, vf] ∧ RawFilesAt w B vf p.files

theorem RawFileAt.below {w w' : World} {B : Nat} {u : Value} {f : FileD} (h : RawFileAt w B u f) (hb : Below B w w') : RawFileAt w' B u f := by
  obtain ⟨g, cs, h1, h2, h3, h4⟩ := h
  exact ⟨g, cs, h1, h2, h3.below hb h2, h4.below hb⟩
theorem RawFilesAt.below {w w' : World} {B : Nat} {v : Value} {fs : List FileD} (h : RawFilesAt w B v fs) (hb : Below B w w') : RawFilesAt w' B v fs := by
  obtain ⟨A, c, us, h1, h2, h3⟩ := h
  exact ⟨A, c, us, h1, h2.below hb, fun i u f hu hf => (h3 i u f hu hf).below hb⟩
theorem RawPkgAt.below {w w' : World} {B : Nat} {u : Value} {f : PkgD} (h : RawPkgAt w B u f) (hb : Below B w w') : RawPkgAt w' B u f := by
  obtain ⟨g, cs, h1, h2, h3, h4⟩ := h
  exact ⟨g, cs, h1, h2, h3.below hb h2, h4.below hb⟩

structure PkgD.Ok (p : PkgD) : Prop where
  err : p.err.size ≤ 1000
  dir : p.dir.size ≤ 1000
  filesL : p.files.length ≤ 10
  files : ∀ f ∈ p.files, f.Ok

set_option maxHeartbeats 8000000 in
set_option maxRecDepth 100000 in
theorem pkgG (base E kb kt B : Nat) (p : PkgD) (u : Value) (es : ES) (w : World) (hB : B ≤ base) (hp : p.Ok) (hr : RawPkgAt w B u p) (hkb : kb ≤ 10000000) (hkt : kt ≤ 40000000) (h : EG w base E es kb kt) :
    Calls Tryd.prog 46 #[.pointer (some ⟨E, 0, none⟩), u] w fun e w' => e = .returned (.tuple #[]) ∧ EG w' base E (es.pkg p) (kb + 20000) (kt + 1100000) ∧ Fr base E w w' := by
  obtain ⟨g, vf, rfl, hg, hb, A, c, us, rfl, hrd, hus⟩ := hr
  have hB0 : g < base := by omega
  have HFL := hp.filesL
  have cc : ∀ w' : World, Fr base E w w' → ∀ j, w'.cell? ⟨g, j, none⟩ = (#[.string p.err, .string p.dir, .slice A p.files.length c] : Array Value)[j]? := fun w' hF j => (hb.below hF.1 hB0).cell j
  have CC := Lib.hid cc
  have HRD := Lib.hid hrd
  have HUS := Lib.hid hus
  have HP := Lib.hid hp
  clear cc hb hrd hus hp
  have c0 : w.cell? ⟨g, 0, none⟩ = some (.string p.err) := CC.out w (Fr.refl base E w) 0
  have C0 := strG base E kb kt p.err es w HP.out.err (by omega) (by omega) h
  clear h
  go_enter Tryd.func46, Tryd.ntmps46
  go_wp2_with fail
  refine C0.mono ?_
  rintro e w1 ⟨rfl, h1, F1⟩
  have c1 : w1.cell? ⟨g, 1, none⟩ = some (.string p.dir) := CC.out w1 F1 1
  have C1 := strG base E _ _ p.dir _ w1 HP.out.dir (by omega) (by omega) h1
  clear C0 h1 c0
  go_wp2_with fail
  refine C1.mono ?_
  rintro e w2 ⟨rfl, h2, G2⟩
  have F2 := F1.trans G2
  have c2 : w2.cell? ⟨g, 2, none⟩ = some (.slice A p.files.length c) := CC.out w2 F2 2
  have C2 := intG base E _ _ p.files.length _ w2 (by omega) (by omega) h2
  clear C1 h2 c1 F1 G2
  go_wp2_with fail
  refine C2.mono ?_
  rintro e w3 ⟨rfl, h3, G3⟩
  have F3 := F2.trans G3
  have c3 : w3.cell? ⟨g, 2, none⟩ = some (.slice A p.files.length c) := CC.out w3 F3 2
  have h3' : EG w3 base E (es.pre p) (kb + 12) (kt + 2004) := h3.mono (by omega) (by omega)
  have C3 := pos_any base E (es.pre p) w3 h3'.1
  clear C2 h3 c2 F2 G3
  generalize hpre : es.pre p = e0 at h3' C3
  have HPRE := Lib.hid hpre
  clear hpre
  go_wp2_with fail
  refine C3.mono ?_
  rintro e w4 ⟨rfl, rfl⟩
  clear C3
  go_wp2_with fail
  go_loopw [33] (fun i wr => ∃ k : Nat, k ≤ p.files.length ∧ i = .int .i64 k ∧ EG wr base E (e0.zeros k) (kb + 12 + 4 * k) (kt + 2004) ∧ Fr base E w wr) (fun i _ => p.files.length - (intOf i).toNat)
  case atStart => exact ⟨0, Nat.zero_le _, rfl, h3'.mono (by omega) (by omega), F3⟩
  case round =>
    obtain ⟨k, hk, rfl, hE, hF⟩ := hrel
    by_cases hlt : k < p.files.length
    · have C := intG base E _ _ 0 _ wr (by omega) (by omega) hE
      go_wp2_with fail
      refine C.mono ?_
      rintro e wy ⟨rfl, hE2, G2⟩
      have FF2 := hF.trans G2
      clear C
      go_wp2_with fail
      go_roundw
      case rel => exact ⟨k + 1, by omega, by go_num, hE2.mono (by omega) (by omega), FF2⟩
      case measure => simp [intOf]; omega
    · have hkl : k = p.files.length := by omega
      subst hkl
      clear c3 h3' F3
      have cr : wr.cell? ⟨g, 2, none⟩ = some (.slice A p.files.length c) := CC.out wr hF 2
      have hzb := zeros_b e0 p.files.length
      have HPK : Hid (es.pkg p = (e0.zeros p.files.length).filesTo e0.b.length p.files p.files.length) := Lib.hid (by unfold ES.pkg; rw [HPRE.out])
      generalize e0.zeros p.files.length = ez at hE hzb HPK
      go_wp2_with fail
      go_loopw [5, 6, 43] (fun _ _ i wx => ∃ k : Nat, k ≤ p.files.length ∧ i = .int .i64 k ∧ EG wx base E (ez.filesTo e0.b.length p.files k) (kb + 52 + 1000 * k) (kt + 2004 + 100000 * k) ∧ Fr base E w wx ∧ ez.b.length ≤ (ez.filesTo e0.b.length p.files k).b.length) (fun _ _ i _ => p.files.length - (intOf i).toNat)
      case atStart => exact ⟨0, Nat.zero_le _, rfl, hE.mono (by omega) (by omega), hF, Nat.le_refl _⟩
      case round =>
        obtain ⟨k, hk2, rfl, hEx, hFx, hlb⟩ := hrel
        clear cr hE hF
        by_cases hlt2 : k < p.files.length
        · have hfs := Lib.hid (filesTo_succ ez e0.b.length p.files k hlt2)
          obtain ⟨g1, o1, rfl, hgb, hcell⟩ := (HRD.out.below (hFx.1.mono hB)).lies (by omega)
          have hul : k < us.length := by rw [HRD.out.1]; omega
          have hu := hcell k _ (List.getElem?_eq_getElem hul)
          have hfk := (HUS.out k _ _ (List.getElem?_eq_getElem hul) (List.getElem?_eq_getElem hlt2)).below (hFx.1.mono hB)
          have hok := HP.out.files _ (List.getElem_mem hlt2)
          have hbl := hEx.2.2.1
          clear hcell
          generalize us[k] = u at hu hfk
          generalize p.files[k] = f at hfs hfk hok
          obtain ⟨gf, cs, rfl, hgf, hbf, hrf⟩ := hfk
          have hfb := file_b ((ez.filesTo e0.b.length p.files k).patch (e0.b.length + 4 * k) (ez.filesTo e0.b.length p.files k).b.length) f
          have hpb : ((ez.filesTo e0.b.length p.files k).patch (e0.b.length + 4 * k) (ez.filesTo e0.b.length p.files k).b.length).b.length = (ez.filesTo e0.b.length p.files k).b.length := patch_length _ _ _
          have C := pos_any base E _ wr hEx.1
          have C2 := patchG base E _ _ (ez.filesTo e0.b.length p.files k).b.length (e0.b.length + 4 * k) _ wr (by omega) (by omega) (by omega) hEx
          generalize ez.filesTo e0.b.length p.files k = ek at hEx C C2 hfs hlb hbl hfb hpb
          have hbf1 := fun wz (h : Fr base E wr wz) => hbf.below h.1 (Nat.lt_of_lt_of_le hgf hB)
          have hrf1 := fun wz (h : Fr base E wr wz) => hrf.below (h.1.mono hB)
          have HBF := Lib.hid hbf1
          have HRF := Lib.hid hrf1
          clear hbf1 hrf1 hbf hrf
          generalize hL0 : e0.b.length = l0 at *
          generalize hLk : ek.b.length = lk at *
          have HL0 := Lib.hid hL0
          have HLk := Lib.hid hLk
          clear hL0 hLk hEx
          go_wp2_with fail
          refine C.mono ?_
          rintro e wy ⟨rfl, rfl⟩
          clear C
          go_wp2_with fail
          refine C2.mono ?_
          rintro e wy ⟨rfl, hE2, G2⟩
          clear C2
          have C3 := fileG base E _ _ B gf f cs _ wy hB hgf hok (HBF.out wy G2) (HRF.out wy G2) (by omega) (by omega) hE2
          have F5 := hFx.trans G2
          clear hE2 G2 hFx
          go_wp2_with fail
          refine C3.mono ?_
          rintro e wz ⟨rfl, hE3, G3⟩
          have F6 := F5.trans G3
          clear C3 F5 G3
          go_wp2_with fail
          go_roundw
          case rel => exact ⟨k + 1, by omega, by go_num, by rw [hfs.out]; exact hE3.mono (by omega) (by omega), F6, by rw [hfs.out]; omega⟩
          case measure => simp [intOf]; omega
        · have hkl : k = p.files.length := by omega
          subst hkl
          go_wp2_with fail
          refine bodyPost_end (results_none rfl _ _ _) rfl ?_
          exact ⟨rfl, by rw [HPK.out]; exact hEx.mono (by omega) (by omega), hFx⟩
end Go.Proofs.YtanfimeajalffaaDoor
