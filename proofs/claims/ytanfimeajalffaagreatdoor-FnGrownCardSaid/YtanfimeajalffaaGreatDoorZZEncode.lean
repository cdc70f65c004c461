/-
  The contract of ZZEncode. Conditions: packages within the law's bounds, in the order of their folders.
-/
import Derived.Test.YtanfimeajalffaaGreatDoorGC
import Derived.Test.YtanfimeajalffaaGreatDoorEncode
namespace Go.Proofs.YtanfimeajalffaaGreatDoor
open Go.RowKit
attribute [local go_sem ↓] Go.wp_at_zero Go.wp_at_succ

theorem rawImport_info : (Tryz.prog.info? 92).map (fun i => (i.zero, i.size, i.bytes)) = some (some (.agg #[.string ByteArray.empty, .string ByteArray.empty, .int .i64 0, .int .i64 0, .int .i64 0]), 5, 56) := by kernel_rfl
theorem embed_info : (Tryz.prog.info? 94).map (fun i => (i.zero, i.size, i.bytes)) = some (some (.agg #[.string ByteArray.empty, .string ByteArray.empty, .int .i64 0, .int .i64 0, .int .i64 0]), 5, 56) := by kernel_rfl
theorem prawFile_info : (Tryz.prog.info? 82).map (fun i => (i.zero, i.size, i.bytes)) = some (some (.pointer none), 1, 8) := by kernel_rfl
theorem prawPkg_info : (Tryz.prog.info? 78).map (fun i => (i.zero, i.size, i.bytes)) = some (some (.pointer none), 1, 8) := by kernel_rfl

/-- A file as the encoder's input has it, in blocks of known types; the lists that came in lie ahead of B0. -/
def RawFileT (w : World) (B0 B : Nat) (u : Value) (f : FileD) : Prop :=
  ∃ g vc vi ve vd, u = .pointer (some ⟨g, 0, none⟩) ∧ g < B ∧ Blk w g 86 (fileCells f vc vi ve vd).toArray ∧ StrsAt w B0 vc f.cons ∧ DirsT w B 92 vi f.imps ∧ DirsT w B 94 ve f.embs ∧ DirsAt w B0 vd f.dirs
theorem Blk.same {w w' : World} {g B : Nat} {t : TypeId} {cs : Array Value} {T : List TypeId} (h : Blk w g t cs) (hs : SameOn T B w w') (hg : g < B) (ht : t ∉ T) : Blk w' g t cs := hs g cs t (0, 0) hg h ht
theorem RawFileT.same {w w' : World} {B0 B : Nat} {u : Value} {f : FileD} {T : List TypeId} (h : RawFileT w B0 B u f) (hs : SameOn T B w w') (hb : Below B0 w w') (h1 : 86 ∉ T) (h2 : 92 ∉ T) (h3 : 94 ∉ T) : RawFileT w' B0 B u f := by
  obtain ⟨g, vc, vi, ve, vd, e, hg, a, b, c, d, x⟩ := h
  exact ⟨g, vc, vi, ve, vd, e, hg, a.same hs hg h1, b.below hb, c.same hs h2, d.same hs h3, x.below hb⟩
theorem DirsT.more {w : World} {B B' : Nat} {D : TypeId} {v : Value} {ds : List DirD} (h : DirsT w B D v ds) (hB : B ≤ B') : DirsT w B' D v ds := by
  obtain ⟨A, c, h1, h2⟩ := h
  exact ⟨A, c, h1, h2.more hB⟩
theorem RawFileT.more {w : World} {B0 B B' : Nat} {u : Value} {f : FileD} (h : RawFileT w B0 B u f) (hB : B ≤ B') : RawFileT w B0 B' u f := by
  obtain ⟨g, vc, vi, ve, vd, e, hg, a, b, c, d, x⟩ := h
  exact ⟨g, vc, vi, ve, vd, e, by omega, a, b, c.more hB, d.more hB, x⟩
theorem StrsAt.more {w : World} {B B' : Nat} {v : Value} {ss : List ByteArray} (h : StrsAt w B v ss) (hB : B ≤ B') : StrsAt w B' v ss := by
  obtain ⟨A, c, h1, h2⟩ := h
  exact ⟨A, c, h1, h2.more hB⟩
theorem DirsAt.more {w : World} {B B' : Nat} {v : Value} {ds : List DirD} (h : DirsAt w B v ds) (hB : B ≤ B') : DirsAt w B' v ds := by
  obtain ⟨A, c, h1, h2⟩ := h
  exact ⟨A, c, h1, h2.more hB⟩
theorem DirsT.at_ {w : World} {B : Nat} {D : TypeId} {v : Value} {ds : List DirD} (h : DirsT w B D v ds) : DirsAt w B v ds := by
  obtain ⟨A, c, h1, h2⟩ := h
  exact ⟨A, c, h1, h2.reads⟩
theorem RawFileT.at_ {w : World} {B0 B : Nat} {u : Value} {f : FileD} (h : RawFileT w B0 B u f) (hB : B0 ≤ B) : RawFileAt w B u f := by
  obtain ⟨g, vc, vi, ve, vd, e, hg, a, b, c, d, x⟩ := h
  exact ⟨g, _, e, hg, a, vc, vi, ve, vd, rfl, b.more hB, c.at_, d.at_, x.more hB⟩
/-- One pointer to a file, as an element of a row. -/
def FileP (w : World) (B0 B : Nat) (cs : List Value) (f : FileD) : Prop := ∃ u, cs = [u] ∧ RawFileT w B0 B u f
/-- A package as the encoder's input has it, in blocks of known types. -/
def RawPkgT (w : World) (B0 B : Nat) (u : Value) (p : PkgD) : Prop :=
  ∃ g vf, u = .pointer (some ⟨g, 0, none⟩) ∧ g < B ∧ Blk w g 81 #[.string p.err, .string p.dir, vf] ∧ ListT w B 82 1 (FileP w B0 B) vf p.files
def PkgP (w : World) (B0 B : Nat) (cs : List Value) (p : PkgD) : Prop := ∃ u, cs = [u] ∧ RawPkgT w B0 B u p
theorem FileP.same {w w' : World} {B0 B : Nat} {u : List Value} {f : FileD} {T : List TypeId} (h : FileP w B0 B u f) (hs : SameOn T B w w') (hb : Below B0 w w') (h1 : 86 ∉ T) (h2 : 92 ∉ T) (h3 : 94 ∉ T) : FileP w' B0 B u f := by
  obtain ⟨v, e, h⟩ := h
  exact ⟨v, e, h.same hs hb h1 h2 h3⟩
theorem FileP.more {w : World} {B0 B B' : Nat} {u : List Value} {f : FileD} (h : FileP w B0 B u f) (hB : B ≤ B') : FileP w B0 B' u f := by
  obtain ⟨v, e, h⟩ := h
  exact ⟨v, e, h.more hB⟩
theorem PkgP.same {w w' : World} {B0 B : Nat} {u : List Value} {f : PkgD} {T : List TypeId} (h : PkgP w B0 B u f) (hs : SameOn T B w w') (hb : Below B0 w w') (h1 : 86 ∉ T) (h2 : 92 ∉ T) (h3 : 94 ∉ T) (h4 : 81 ∉ T) (h5 : 82 ∉ T) : PkgP w' B0 B u f := by
  obtain ⟨v, e, g, vf, e2, hg, a, b⟩ := h
  exact ⟨v, e, g, vf, e2, hg, a.same hs hg h4, (b.same hs h5).imp fun _ _ h => h.same hs hb h1 h2 h3⟩
theorem PkgP.more {w : World} {B0 B B' : Nat} {u : List Value} {f : PkgD} (h : PkgP w B0 B u f) (hB : B ≤ B') : PkgP w B0 B' u f := by
  obtain ⟨v, e, g, vf, e2, hg, a, b⟩ := h
  exact ⟨v, e, g, vf, e2, by omega, a, (b.more hB).imp fun _ _ h => h.more hB⟩
theorem flat_one {css : List (List Value)} (h : ∀ cs ∈ css, cs.length = 1) (i : Nat) (u : Value) (hu : css.flatten[i]? = some u) : css[i]? = some [u] := by
  have hl := flat_length 1 css h
  have hi : i < css.length := by
    have := (List.getElem?_eq_some_iff.1 hu).1
    omega
  have hg := flat_get 1 css h i hi 0 (by omega)
  have h1 := h _ (List.getElem_mem hi)
  rw [Nat.mul_one, Nat.add_zero, hu] at hg
  rw [List.getElem?_eq_getElem hi]
  match hc : css[i], h1 with
  | [x], _ =>
    rw [hc] at hg
    simp at hg
    rw [hg]
theorem RawPkgT.at_ {w : World} {B0 B : Nat} {u : Value} {p : PkgD} (h : RawPkgT w B0 B u p) (hB : B0 ≤ B) : RawPkgAt w B u p := by
  obtain ⟨g, vf, e, hg, a, A, c, css, h1, h2, h3, h4, h5⟩ := h
  refine ⟨g, vf, e, hg, a, A, c, css.flatten, h1, h4.reads, fun i u f hu hf => ?_⟩
  obtain ⟨v, e, h⟩ := h5 i [u] f (flat_one h3 i u hu) hf
  simp at e
  subst e
  exact h.at_ hB
theorem rawPkgs_at {w : World} {B0 base : Nat} {v : Value} {ps : List PkgD} (h : ListOwn w base 78 1 (PkgP w B0 w.heap.size) v ps) (hB : B0 ≤ w.heap.size) : ∃ A c, v = .slice A ps.length c ∧ RawPkgsAt w w.heap.size A ps := by
  obtain ⟨css, h1, h2, h3, h4⟩ := h
  obtain ⟨A, c, rfl⟩ := own_form' h1
  refine ⟨A, c, rfl, fun h0 => ?_, css.flatten, Reads.of_own h1, fun i u p hu hp => ?_⟩
  · obtain ⟨g, cap, hv, _, hlt⟩ := h1.form h0
    injection hv with hA
    exact ⟨g, hA, hlt⟩
  · obtain ⟨v, e, h⟩ := h4 i [u] p (flat_one h3 i u hu) hp
    simp at e
    subst e
    exact h.at_ hB
theorem one_one (u : Value) (h : u.oneCell' = true) : ∀ x ∈ [u], x.oneCell' = true := one_cell u h

theorem own_apart {w : World} {base base' : Nat} {e e' : TypeId} {s s' n n' : Nat} {v v' : Value} {xs xs' : List Value} (h : w.ownsRow base e s v n xs) (h' : w.ownsRow base' e' s' v' n' xs') (hne : e ≠ e' := by decide) : v.ownBlock = none ∨ v.ownBlock ≠ v'.ownBlock := by
  rcases h.2 with ⟨rfl, _⟩ | ⟨g, cap, cur, rfl, _, hg, _⟩
  · exact .inl rfl
  · refine .inr fun hh => own_blk_ne h' (g := g) (t := e) (cs := cur) hg (Ne.symm hne) ?_
    exact hh.symm

set_option maxHeartbeats 4000000 in
set_option maxRecDepth 100000 in
theorem zzEncode_any (u : Value) (ps : List PkgD) (w : World) (hok : PkgsOk ps) (hv : PkgsAt w w.heap.size u ps) :
    Calls Tryz.prog 21 #[u] w fun e w' => ∃ v', e = .returned v' ∧ w'.ownsRow w.heap.size 5 1 v' (enc ps).length (Lib.byteCells (enc ps)) ∧ Below w.heap.size w w' := by
  obtain ⟨i0, hi0, hz00, hz01, hz02⟩ := info_parts' prawPkg_info
  obtain ⟨i1, hi1, hz10, hz11, hz12⟩ := info_parts' prawFile_info
  obtain ⟨i2, hi2, hz20, hz21, hz22⟩ := info_parts' rawImport_info
  obtain ⟨i3, hi3, hz30, hz31, hz32⟩ := info_parts' embed_info
  obtain ⟨A, c, rfl⟩ := ListAt.form hv
  have HV := Lib.hid hv
  have HOK := Lib.hid hok
  have HL := hok.len
  clear hv hok
  go_enter Tryz.func21, Tryz.ntmps21
  go_wp2_with fail
  go_loopw [3, 5, 6, 8, 9, 11, 13, 16] (fun v _ _ _ _ _ _ i wr => ∃ k : Nat, k ≤ ps.length ∧ i = .int .i64 k ∧ ListOwn wr w.heap.size 78 1 (PkgP wr w.heap.size wr.heap.size) v (ps.take k) ∧ Below w.heap.size w wr) (fun _ _ _ _ _ _ _ i _ => ps.length - (intOf i).toNat)
  case atStart => exact ⟨0, Nat.zero_le _, rfl, ListOwn.nil rfl _, Below.refl _ _⟩
  case round =>
    obtain ⟨k, hk, rfl, hown, hF⟩ := hrel
    have hsz := hF.size
    by_cases hlt : k < ps.length
    · obtain ⟨gp, op, cs, rfl, hgp, _, ⟨vf, rfl, hfs⟩, hcell⟩ := (PkgsAt.below HV.out hF).get (by omega) k hlt
      have c0 : wr.cell? ⟨gp, op + k * 3, none⟩ = some (.string ps[k].err) := hcell 0 _ rfl
      have c1 : wr.cell? ⟨gp, op + k * 3 + 1, none⟩ = some (.string ps[k].dir) := hcell 1 _ rfl
      have c2 : wr.cell? ⟨gp, op + k * 3 + 2, none⟩ = some vf := hcell 2 _ rfl
      have hpk := HOK.out.each _ (List.getElem_mem hlt)
      have hts := Lib.hid (take_snoc' ps k hlt)
      generalize ps[k] = p at c0 c1 c2 hfs hpk hts
      obtain ⟨Af, cf, rfl⟩ := hfs.form
      have HFS := Lib.hid hfs
      have HPK := Lib.hid hpk
      have HFL := hpk.filesL
      have HOW := Lib.hid hown
      clear hcell hfs hpk hown
      obtain ⟨wo, rfl⟩ : ∃ wo : World, wo = wr := ⟨_, rfl⟩
      have hB1 : Blk ((wo.alloc (.cells #[.string p.err, .string p.dir, .slice Af p.files.length cf] 52)).alloc (.cells #[.string p.err, .string p.dir, .slice none 0 0] 81)) (wo.heap.size + 1) 81 #[.string p.err, .string p.dir, .slice none 0 0] := by
        have := Blk.new (wo.alloc (.cells #[.string p.err, .string p.dir, .slice Af p.files.length cf] 52)) 81 #[.string p.err, .string p.dir, .slice none 0 0]
        rw [World.size_alloc] at this
        exact this
      have hW1 : Below wo.heap.size wo ((wo.alloc (.cells #[.string p.err, .string p.dir, .slice Af p.files.length cf] 52)).alloc (.cells #[.string p.err, .string p.dir, .slice none 0 0] 81)) := ((Below.refl _ _).alloc (Nat.le_refl _) _).alloc (by simp) _
      have HB1 := Lib.hid hB1
      clear hB1
      go_wp2_with fail
      go_loopw [8, 9, 11, 13, 29] (fun _ _ _ _ j wx => ∃ m : Nat, m ≤ p.files.length ∧ j = .int .i64 m ∧ Below wo.heap.size wo wx ∧ ∃ vx, Blk wx (wo.heap.size + 1) 81 #[.string p.err, .string p.dir, vx] ∧ ListOwn wx wo.heap.size 82 1 (FileP wx w.heap.size wx.heap.size) vx (p.files.take m)) (fun _ _ _ _ j _ => p.files.length - (intOf j).toNat)
      case atStart => exact ⟨0, Nat.zero_le _, rfl, hW1, _, HB1.out, ListOwn.nil rfl _⟩
      case round =>
        obtain ⟨m, hm, rfl, hFx, vx, hbx, hox⟩ := hrel
        clear hW1 HB1 c0 c1 c2
        obtain ⟨wx, rfl⟩ : ∃ wx : World, wx = wr := ⟨_, rfl⟩
        have hszx := hFx.size
        have hx0 : w.heap.size ≤ wx.heap.size := Nat.le_trans hsz hszx
        by_cases hltm : m < p.files.length
        · obtain ⟨gf, of, cs, rfl, hgf, _, hR, hcell⟩ := (ListAt.files_below HFS.out (hFx.mono hsz)).get (by omega) m hltm
          have hfok := HPK.out.files _ (List.getElem_mem hltm)
          have htm := Lib.hid (take_snoc' p.files m hltm)
          generalize p.files[m] = f at hR hfok htm
          obtain ⟨vc, vi, ve, vd, rfl, ⟨A1, c1, rfl, x1⟩, ⟨A2, c2, rfl, x2⟩, ⟨A3, c3, rfl, x3⟩, ⟨A4, c4, rfl, x4⟩⟩ := hR
          have d0 : wx.cell? ⟨gf, of + m * 13, none⟩ = some (.string f.err) := hcell 0 _ rfl
          have d1 : wx.cell? ⟨gf, of + m * 13 + 1, none⟩ = some (.string f.perr) := hcell 1 _ rfl
          have d2 : wx.cell? ⟨gf, of + m * 13 + 2, none⟩ = some (.string f.name) := hcell 2 _ rfl
          have d3 : wx.cell? ⟨gf, of + m * 13 + 3, none⟩ = some (.string f.syn) := hcell 3 _ rfl
          have d4 : wx.cell? ⟨gf, of + m * 13 + 4, none⟩ = some (.string f.pkg) := hcell 4 _ rfl
          have d5 : wx.cell? ⟨gf, of + m * 13 + 5, none⟩ = some (.bool f.ign) := hcell 5 _ rfl
          have d6 : wx.cell? ⟨gf, of + m * 13 + 6, none⟩ = some (.bool f.bin) := hcell 6 _ rfl
          have d7 : wx.cell? ⟨gf, of + m * 13 + 7, none⟩ = some (.string f.cgo) := hcell 7 _ rfl
          have d8 : wx.cell? ⟨gf, of + m * 13 + 8, none⟩ = some (.string f.con) := hcell 8 _ rfl
          have d9 : wx.cell? ⟨gf, of + m * 13 + 9, none⟩ = some (.slice A1 f.cons.length c1) := hcell 9 _ rfl
          have d10 : wx.cell? ⟨gf, of + m * 13 + 10, none⟩ = some (.slice A2 f.imps.length c2) := hcell 10 _ rfl
          have d11 : wx.cell? ⟨gf, of + m * 13 + 11, none⟩ = some (.slice A3 f.embs.length c3) := hcell 11 _ rfl
          have d12 : wx.cell? ⟨gf, of + m * 13 + 12, none⟩ = some (.slice A4 f.dirs.length c4) := hcell 12 _ rfl
          have hl2 := hfok.impsL
          have hl3 := hfok.embsL
          have HC := Lib.hid x1
          have HI := Lib.hid x2
          have HE := Lib.hid x3
          have HD := Lib.hid x4
          have HX := Lib.hid hox
          have hB0x : Below w.heap.size wx wx := Below.refl _ _
          have hX2 : Blk ((wx.alloc (.cells #[.string f.err, .string f.perr, .string f.name, .string f.syn, .string f.pkg, .bool f.ign, .bool f.bin, .string f.cgo, .string f.con, .slice A1 f.cons.length c1, .slice A2 f.imps.length c2, .slice A3 f.embs.length c3, .slice A4 f.dirs.length c4] 56)).alloc (.cells #[.string f.err, .string f.perr, .string f.name, .string f.syn, .string f.pkg, .bool f.ign, .bool f.bin, .string f.cgo, .string f.con, .slice A1 f.cons.length c1, .slice none 0 0, .slice none 0 0, .slice A4 f.dirs.length c4] 86)) (wx.heap.size + 1) 86 #[.string f.err, .string f.perr, .string f.name, .string f.syn, .string f.pkg, .bool f.ign, .bool f.bin, .string f.cgo, .string f.con, .slice A1 f.cons.length c1, .slice none 0 0, .slice none 0 0, .slice A4 f.dirs.length c4] := by
            have := Blk.new (wx.alloc (.cells #[.string f.err, .string f.perr, .string f.name, .string f.syn, .string f.pkg, .bool f.ign, .bool f.bin, .string f.cgo, .string f.con, .slice A1 f.cons.length c1, .slice A2 f.imps.length c2, .slice A3 f.embs.length c3, .slice A4 f.dirs.length c4] 56)) 86 #[.string f.err, .string f.perr, .string f.name, .string f.syn, .string f.pkg, .bool f.ign, .bool f.bin, .string f.cgo, .string f.con, .slice A1 f.cons.length c1, .slice none 0 0, .slice none 0 0, .slice A4 f.dirs.length c4]
            rw [World.size_alloc] at this
            exact this
          have HX2 := Lib.hid hX2
          have HF2 := Lib.hid ((Blk.new wx 56 #[.string f.err, .string f.perr, .string f.name, .string f.syn, .string f.pkg, .bool f.ign, .bool f.bin, .string f.cgo, .string f.con, .slice A1 f.cons.length c1, .slice A2 f.imps.length c2, .slice A3 f.embs.length c3, .slice A4 f.dirs.length c4]).alloc (.cells #[.string f.err, .string f.perr, .string f.name, .string f.syn, .string f.pkg, .bool f.ign, .bool f.bin, .string f.cgo, .string f.con, .slice A1 f.cons.length c1, .slice none 0 0, .slice none 0 0, .slice A4 f.dirs.length c4] 86))
          have hW2 : Below wx.heap.size wx ((wx.alloc (.cells #[.string f.err, .string f.perr, .string f.name, .string f.syn, .string f.pkg, .bool f.ign, .bool f.bin, .string f.cgo, .string f.con, .slice A1 f.cons.length c1, .slice A2 f.imps.length c2, .slice A3 f.embs.length c3, .slice A4 f.dirs.length c4] 56)).alloc (.cells #[.string f.err, .string f.perr, .string f.name, .string f.syn, .string f.pkg, .bool f.ign, .bool f.bin, .string f.cgo, .string f.con, .slice A1 f.cons.length c1, .slice none 0 0, .slice none 0 0, .slice A4 f.dirs.length c4] 86)) := ((Below.refl _ _).alloc (Nat.le_refl _) _).alloc (by simp) _
          clear hcell x1 x2 x3 x4 hox hX2 hfok
          go_wp2_with fail
          go_loopw [11, 60] (fun _ j wy => ∃ n : Nat, n ≤ f.imps.length ∧ j = .int .i64 n ∧ Below wx.heap.size wx wy ∧ Blk wy wx.heap.size 56 #[.string f.err, .string f.perr, .string f.name, .string f.syn, .string f.pkg, .bool f.ign, .bool f.bin, .string f.cgo, .string f.con, .slice A1 f.cons.length c1, .slice A2 f.imps.length c2, .slice A3 f.embs.length c3, .slice A4 f.dirs.length c4] ∧ ∃ vy, Blk wy (wx.heap.size + 1) 86 #[.string f.err, .string f.perr, .string f.name, .string f.syn, .string f.pkg, .bool f.ign, .bool f.bin, .string f.cgo, .string f.con, .slice A1 f.cons.length c1, vy, .slice none 0 0, .slice A4 f.dirs.length c4] ∧ wy.ownsRow wx.heap.size 92 5 vy n ((f.imps.take n).flatMap dirCells)) (fun _ j _ => f.imps.length - (intOf j).toNat)
          case atStart => exact ⟨0, Nat.zero_le _, rfl, hW2, HF2.out, _, HX2.out, World.ownsRow_nil _ _ _ _⟩
          case round =>
            obtain ⟨n, hn, rfl, hFy, hFile, vy, hby, oy⟩ := hrel
            obtain ⟨wy, rfl⟩ : ∃ wy : World, wy = wr := ⟨_, rfl⟩
            have hszy := hFy.size
            by_cases hltn : n < f.imps.length
            · obtain ⟨gd, od, rfl, hgd, e0, e1, e2, e3, e4⟩ := DirsAt.cells (HI.out.below (hB0x.trans (hFy.mono hx0))) n hltn
              have hsn := Lib.hid (flat_snoc f.imps n hltn)
              generalize f.imps[n] = d at e0 e1 e2 e3 e4 hsn
              obtain ⟨Ay, cy, rfl⟩ := own_form' oy
              have hS0 : Hid ((∀ j, ((wy.alloc (.cells #[.string d.text, .string d.at_.fn, .int .i64 d.at_.o, .int .i64 d.at_.l, .int .i64 d.at_.c] 90)).drew).cell? ⟨wy.heap.size, j, none⟩ = (#[.string d.text, .string d.at_.fn, .int .i64 d.at_.o, .int .i64 d.at_.l, .int .i64 d.at_.c] : Array Value)[j]?) ∧ ((wy.alloc (.cells #[.string d.text, .string d.at_.fn, .int .i64 d.at_.o, .int .i64 d.at_.l, .int .i64 d.at_.c] 90)).drew).cell? ⟨wx.heap.size + 1, 10, none⟩ = some (.slice Ay n cy)) := Lib.hid ⟨(Blk.new wy 90 #[.string d.text, .string d.at_.fn, .int .i64 d.at_.o, .int .i64 d.at_.l, .int .i64 d.at_.c]).cell, (World.cell?_alloc_lt wy _ _ hby.lt).trans (hby.cell 10)⟩
              have hoW : (((wy.alloc (.cells #[.string d.text, .string d.at_.fn, .int .i64 d.at_.o, .int .i64 d.at_.l, .int .i64 d.at_.c] 90)).alloc (.cells #[.string d.text, .string d.at_.fn, .int .i64 d.at_.o, .int .i64 d.at_.l, .int .i64 d.at_.c] 92)).drew).ownsRow wx.heap.size 92 5 (.slice Ay n cy) n ((f.imps.take n).flatMap dirCells) := ((oy.alloc _).alloc _).drew
              have hbW : Blk (((wy.alloc (.cells #[.string d.text, .string d.at_.fn, .int .i64 d.at_.o, .int .i64 d.at_.l, .int .i64 d.at_.c] 90)).alloc (.cells #[.string d.text, .string d.at_.fn, .int .i64 d.at_.o, .int .i64 d.at_.l, .int .i64 d.at_.c] 92)).drew) (wx.heap.size + 1) 86 #[.string f.err, .string f.perr, .string f.name, .string f.syn, .string f.pkg, .bool f.ign, .bool f.bin, .string f.cgo, .string f.con, .slice A1 f.cons.length c1, .slice Ay n cy, .slice none 0 0, .slice A4 f.dirs.length c4] := ((hby.alloc _).alloc _).drew
              have hfW : Blk (((wy.alloc (.cells #[.string d.text, .string d.at_.fn, .int .i64 d.at_.o, .int .i64 d.at_.l, .int .i64 d.at_.c] 90)).alloc (.cells #[.string d.text, .string d.at_.fn, .int .i64 d.at_.o, .int .i64 d.at_.l, .int .i64 d.at_.c] 92)).drew) wx.heap.size 56 #[.string f.err, .string f.perr, .string f.name, .string f.syn, .string f.pkg, .bool f.ign, .bool f.bin, .string f.cgo, .string f.con, .slice A1 f.cons.length c1, .slice (some ⟨gd, od, none⟩) f.imps.length c2, .slice A3 f.embs.length c3, .slice A4 f.dirs.length c4] := ((hFile.alloc _).alloc _).drew
              have hnb : Value.ownBlock (.slice Ay n cy) ≠ some wy.heap.size := fun e => by have := (oy.lt _ e).2; omega
              have hbw4 : Below wx.heap.size wx (((wy.alloc (.cells #[.string d.text, .string d.at_.fn, .int .i64 d.at_.o, .int .i64 d.at_.l, .int .i64 d.at_.c] 90)).alloc (.cells #[.string d.text, .string d.at_.fn, .int .i64 d.at_.o, .int .i64 d.at_.l, .int .i64 d.at_.c] 92)).drew) := ((hFy.alloc hszy _).alloc (by simp; omega) _).drew
              have hread := (reads_row (wy.alloc (.cells #[.string d.text, .string d.at_.fn, .int .i64 d.at_.o, .int .i64 d.at_.l, .int .i64 d.at_.c] 90)) #[.string d.text, .string d.at_.fn, .int .i64 d.at_.o, .int .i64 d.at_.l, .int .i64 d.at_.c] 92 (wy.heap.size + 1) 1 5 rfl (by simp)).drew
              have HOa := Lib.hid hoW
              have HBa := Lib.hid hbW
              have HFa := Lib.hid hfW
              have HBb := Lib.hid hbw4
              have HRD := Lib.hid hread
              have HFYc := Lib.hid hFy
              clear hoW hbW hfW hbw4 hread hby oy hFile hFy 
              go_wp2_with fail
              refine wp_region_m 14 (fun W => (∀ j, W.cell? ⟨wy.heap.size, j, none⟩ = (#[.string d.text, .string d.at_.fn, .int .i64 d.at_.o, .int .i64 d.at_.l, .int .i64 d.at_.c] : Array Value)[j]?) ∧ W.cell? ⟨wx.heap.size + 1, 10, none⟩ = some (.slice Ay n cy)) (by kernel_rfl) ?_
              have hHeld := hS0.out
              refine wpAnyM_take (i := 0) (v := (.pointer (some ⟨wx.heap.size + 1, 0, none⟩))) rfl (by kernel_rfl) (by kernel_rfl) (by kernel_rfl) (by kernel_rfl) (by decide) (fun _ _ _ h => h) (by assumption) (Or.inl ⟨by rfl, ?_⟩) ?_
              · intro W hSW
                (try dsimp only at hSW)
                go_simp
              (try go_frame)
              refine wpAnyM_take (i := 1) (v := (.pointer (some ⟨wx.heap.size + 1, 0, none⟩))) rfl (by kernel_rfl) (by kernel_rfl) (by kernel_rfl) (by kernel_rfl) (by decide) (fun _ _ _ h => h) (by assumption) (Or.inl ⟨by rfl, ?_⟩) ?_
              · intro W hSW
                (try dsimp only at hSW)
                go_simp
              (try go_frame)
              refine wpAnyM_take (i := 2) (v := (.pointer (some ⟨wx.heap.size + 1, 0, none⟩))) rfl (by kernel_rfl) (by kernel_rfl) (by kernel_rfl) (by kernel_rfl) (by decide) (fun _ _ _ h => h) (by assumption) (Or.inl ⟨by rfl, ?_⟩) ?_
              · intro W hSW
                (try dsimp only at hSW)
                go_simp
              (try go_frame)
              refine wpAnyM_take (i := 3) (v := (.pointer (some ⟨wx.heap.size + 1, 10, none⟩))) rfl (by kernel_rfl) (by kernel_rfl) (by kernel_rfl) (by kernel_rfl) (by decide) (fun _ _ _ h => h) (by assumption) (Or.inl ⟨by rfl, ?_⟩) ?_
              · intro W hSW
                (try dsimp only at hSW)
                go_simp
              (try go_frame)
              refine wpAnyM_take (i := 4) (v := (.slice Ay n cy)) rfl (by kernel_rfl) (by kernel_rfl) (by kernel_rfl) (by kernel_rfl) (by decide) (fun _ _ _ h => h) (by assumption) (Or.inl ⟨by rfl, ?_⟩) ?_
              · intro W hSW
                (try dsimp only at hSW)
                go_simp
              (try go_frame)
              refine wpAnyM_take (i := 5) (v := (.pointer (some ⟨wy.heap.size, 0, none⟩))) rfl (by kernel_rfl) (by kernel_rfl) (by kernel_rfl) (by kernel_rfl) (by decide) (fun _ _ _ h => h) (by assumption) (Or.inl ⟨by rfl, ?_⟩) ?_
              · intro W hSW
                (try dsimp only at hSW)
                go_simp
              (try go_frame)
              refine wpAnyM_take (i := 6) (v := (.string d.text)) rfl (by kernel_rfl) (by kernel_rfl) (by kernel_rfl) (by kernel_rfl) (by decide) (fun _ _ _ h => h) (by assumption) (Or.inl ⟨by rfl, ?_⟩) ?_
              · intro W hSW
                (try dsimp only at hSW)
                go_simp
              (try go_frame)
              refine wpAnyM_take (i := 7) (v := (.pointer (some ⟨wy.heap.size, 1, none⟩))) rfl (by kernel_rfl) (by kernel_rfl) (by kernel_rfl) (by kernel_rfl) (by decide) (fun _ _ _ h => h) (by assumption) (Or.inl ⟨by rfl, ?_⟩) ?_
              · intro W hSW
                (try dsimp only at hSW)
                go_simp
              (try go_frame)
              refine wpAnyM_take (i := 8) (v := (.agg #[.string d.at_.fn, .int .i64 d.at_.o, .int .i64 d.at_.l, .int .i64 d.at_.c])) rfl (by kernel_rfl) (by kernel_rfl) (by kernel_rfl) (by kernel_rfl) (by decide) (fun _ _ _ h => h) (by assumption) (Or.inl ⟨by rfl, ?_⟩) ?_
              · intro W hSW
                (try dsimp only at hSW)
                go_simp
              (try go_frame)
              refine wpAnyM_take (i := 9) (v := (.agg #[.string d.text, .string d.at_.fn, .int .i64 d.at_.o, .int .i64 d.at_.l, .int .i64 d.at_.c])) rfl (by kernel_rfl) (by kernel_rfl) (by kernel_rfl) (by kernel_rfl) (by decide) (fun _ _ _ h => h) (by assumption) (Or.inl ⟨by rfl, ?_⟩) ?_
              · intro W hSW
                (try dsimp only at hSW)
                go_simp
              (try go_frame)
              refine wpAnyM_only (i := 10) rfl (by kernel_rfl) (fun K hK => ?_)
              go_simp
              have hHeld3 : (∀ j, (((wy.alloc (.cells #[.string d.text, .string d.at_.fn, .int .i64 d.at_.o, .int .i64 d.at_.l, .int .i64 d.at_.c] 90)).alloc (.cells #[.string d.text, .string d.at_.fn, .int .i64 d.at_.o, .int .i64 d.at_.l, .int .i64 d.at_.c] 92)).drew).cell? ⟨wy.heap.size, j, none⟩ = (#[.string d.text, .string d.at_.fn, .int .i64 d.at_.o, .int .i64 d.at_.l, .int .i64 d.at_.c] : Array Value)[j]?) ∧ (((wy.alloc (.cells #[.string d.text, .string d.at_.fn, .int .i64 d.at_.o, .int .i64 d.at_.l, .int .i64 d.at_.c] 90)).alloc (.cells #[.string d.text, .string d.at_.fn, .int .i64 d.at_.o, .int .i64 d.at_.l, .int .i64 d.at_.c] 92)).drew).cell? ⟨wx.heap.size + 1, 10, none⟩ = some (.slice Ay n cy) := ⟨keepCells (Below.heap_alloc (wy.alloc (.cells #[.string d.text, .string d.at_.fn, .int .i64 d.at_.o, .int .i64 d.at_.l, .int .i64 d.at_.c] 90)) _ _ (by simp)) hHeld.1, HBa.out.cell 10⟩
              refine hK.out _ _ (.inr hHeld3) ?_
              clear hK K
              (try go_frame)
              clear hHeld
              refine wpAnyM_only (i := 11) rfl (by kernel_rfl) (fun K hK => ?_)
              refine step_append_any _ (by rfl) (.tmp 68) (.tmp 74) _ (by rfl) wx.heap.size 92 i2 _ 5 56 Tryz.underlying83 hi2 hz20 hz21 hz22 (by rfl) (by decide) (.slice Ay n cy) n _ (by rfl) HOa.out _ (some ⟨wy.heap.size + 1, 0, none⟩) 1 1 (dirCells d) (by rfl) HRD.out (dirs_one d) (by unfold maxLen; omega) (by omega) (by simp; omega) ?_
              intro vA wA hownA hgA _
              have hbA := HBa.out.grown hgA (fun e => own_blk_ne HOa.out HBa.out (by decide) e.symm)
              have hfA := HFa.out.grown hgA (fun e => own_blk_ne HOa.out HFa.out (by decide) e.symm)
              obtain ⟨AA, cA, rfl⟩ := own_form' hownA
              have hHeld4 : (∀ j, wA.cell? ⟨wy.heap.size, j, none⟩ = (#[.string d.text, .string d.at_.fn, .int .i64 d.at_.o, .int .i64 d.at_.l, .int .i64 d.at_.c] : Array Value)[j]?) ∧ wA.cell? ⟨wx.heap.size + 1, 10, none⟩ = some (.slice Ay n cy) := ⟨keepCells (hgA.block _ (by simp; omega) (Ne.symm hnb)) hHeld3.1, hbA.cell 10⟩
              have hfrA := hbA.frozen 10
              have hneA : Value.ownBlock (.slice AA (n + 1) cA) ≠ some (wx.heap.size + 1) := own_blk_ne hownA hbA (by decide)
              have hbF : Blk (wA.setCell ⟨wx.heap.size + 1, 10, none⟩ (.slice AA (n + 1) cA)) (wx.heap.size + 1) 86 #[.string f.err, .string f.perr, .string f.name, .string f.syn, .string f.pkg, .bool f.ign, .bool f.bin, .string f.cgo, .string f.con, .slice A1 f.cons.length c1, .slice AA (n + 1) cA, .slice none 0 0, .slice A4 f.dirs.length c4] := hbA.set_ 10 _
              have hfF : Blk (wA.setCell ⟨wx.heap.size + 1, 10, none⟩ (.slice AA (n + 1) cA)) wx.heap.size 56 #[.string f.err, .string f.perr, .string f.name, .string f.syn, .string f.pkg, .bool f.ign, .bool f.bin, .string f.cgo, .string f.con, .slice A1 f.cons.length c1, .slice (some ⟨gd, od, none⟩) f.imps.length c2, .slice A3 f.embs.length c3, .slice A4 f.dirs.length c4] := hfA.far (by simp) _
              have hoF : (wA.setCell ⟨wx.heap.size + 1, 10, none⟩ (.slice AA (n + 1) cA)).ownsRow wx.heap.size 92 5 (.slice AA (n + 1) cA) (n + 1) ((f.imps.take (n + 1)).flatMap dirCells) := by
                rw [hsn.out]
                exact hownA.kept (grownBy_setCell wA ⟨wx.heap.size + 1, 10, none⟩ _) (.inr hneA)
              have hwF : Below wx.heap.size wx (wA.setCell ⟨wx.heap.size + 1, 10, none⟩ (.slice AA (n + 1) cA)) := (HBb.out.grown hgA (by simp; omega) (fun j hj => (HOa.out.lt j hj).1)).setCell (by simp) _
              have HbF := Lib.hid hbF
              have HfF := Lib.hid hfF
              have HoF := Lib.hid hoF
              have HwF := Lib.hid hwF
              clear hbF hfF hoF hwF hneA hownA hgA hbA hfA 
              refine hK.out _ _ (.inr hHeld4) ?_
              clear hK K
              (try go_frame)
              clear hHeld3
              refine wpAnyM_only (i := 12) rfl (by kernel_rfl) (fun K hK => ?_)
              go_simp
              refine hK.out _ _ (.inr hHeld4) ?_
              clear hK K
              (try go_frame)
              refine wpAnyM_take (i := 13) (v := (.pointer (some ⟨wx.heap.size + 1, 10, none⟩))) rfl (by kernel_rfl) (by kernel_rfl) (by kernel_rfl) (by kernel_rfl) (by decide) (fun _ _ _ h => h) (by assumption) (Or.inl ⟨by rfl, ?_⟩) ?_
              · intro W hSW
                (try dsimp only at hSW)
                go_simp
              (try go_frame)
              refine wpAnyM_only (i := 14) rfl (by kernel_rfl) (fun K hK => ?_)
              have hcA := hHeld4.2
              go_simp
              refine hK.out _ _ (.inl rfl) ?_
              clear hK K
              (try go_frame)
              refine wpAnyM_done (by kernel_rfl) (NoPanic.normal ?_)
              clear hHeld4 hcA hfrA
              go_wp2_with fail
              go_roundw
              case rel => exact ⟨n + 1, by omega, by go_num, HwF.out, HfF.out, _, HbF.out, HoF.out⟩
              case measure => simp [intOf]; omega
            · have hnl : n = f.imps.length := by omega
              subst hnl
              rw [List.take_length] at oy
              obtain ⟨AI, cI, rfl⟩ := own_form' oy
              clear hW2 HX2 HF2
              have k11 := hFile.cell 11
              go_wp2_with fail
              go_loopw [13, 82] (fun _ j wy => ∃ n : Nat, n ≤ f.embs.length ∧ j = .int .i64 n ∧ Below wx.heap.size wx wy ∧ Blk wy wx.heap.size 56 #[.string f.err, .string f.perr, .string f.name, .string f.syn, .string f.pkg, .bool f.ign, .bool f.bin, .string f.cgo, .string f.con, .slice A1 f.cons.length c1, .slice A2 f.imps.length c2, .slice A3 f.embs.length c3, .slice A4 f.dirs.length c4] ∧ ∃ vy, Blk wy (wx.heap.size + 1) 86 #[.string f.err, .string f.perr, .string f.name, .string f.syn, .string f.pkg, .bool f.ign, .bool f.bin, .string f.cgo, .string f.con, .slice A1 f.cons.length c1, .slice AI f.imps.length cI, vy, .slice A4 f.dirs.length c4] ∧ wy.ownsRow wx.heap.size 94 5 vy n ((f.embs.take n).flatMap dirCells) ∧ wy.ownsRow wx.heap.size 92 5 (.slice AI f.imps.length cI) f.imps.length (f.imps.flatMap dirCells)) (fun _ j _ => f.embs.length - (intOf j).toNat)
              case atStart => exact ⟨0, Nat.zero_le _, rfl, hFy, hFile, _, hby, World.ownsRow_nil _ _ _ _, oy⟩
              case round =>
                obtain ⟨n, hn, rfl, hFy, hFile, vy, hby, oy, oz⟩ := hrel
                obtain ⟨wy, rfl⟩ : ∃ wy : World, wy = wr := ⟨_, rfl⟩
                have hszy := hFy.size
                by_cases hltn : n < f.embs.length
                · obtain ⟨gd, od, rfl, hgd, e0, e1, e2, e3, e4⟩ := DirsAt.cells (HE.out.below (hB0x.trans (hFy.mono hx0))) n hltn
                  have hsn := Lib.hid (flat_snoc f.embs n hltn)
                  generalize f.embs[n] = d at e0 e1 e2 e3 e4 hsn
                  obtain ⟨Ay, cy, rfl⟩ := own_form' oy
                  have hS0 : Hid ((∀ j, ((wy.alloc (.cells #[.string d.text, .string d.at_.fn, .int .i64 d.at_.o, .int .i64 d.at_.l, .int .i64 d.at_.c] 90)).drew).cell? ⟨wy.heap.size, j, none⟩ = (#[.string d.text, .string d.at_.fn, .int .i64 d.at_.o, .int .i64 d.at_.l, .int .i64 d.at_.c] : Array Value)[j]?) ∧ ((wy.alloc (.cells #[.string d.text, .string d.at_.fn, .int .i64 d.at_.o, .int .i64 d.at_.l, .int .i64 d.at_.c] 90)).drew).cell? ⟨wx.heap.size + 1, 11, none⟩ = some (.slice Ay n cy)) := Lib.hid ⟨(Blk.new wy 90 #[.string d.text, .string d.at_.fn, .int .i64 d.at_.o, .int .i64 d.at_.l, .int .i64 d.at_.c]).cell, (World.cell?_alloc_lt wy _ _ hby.lt).trans (hby.cell 11)⟩
                  have hoW : (((wy.alloc (.cells #[.string d.text, .string d.at_.fn, .int .i64 d.at_.o, .int .i64 d.at_.l, .int .i64 d.at_.c] 90)).alloc (.cells #[.string d.text, .string d.at_.fn, .int .i64 d.at_.o, .int .i64 d.at_.l, .int .i64 d.at_.c] 94)).drew).ownsRow wx.heap.size 94 5 (.slice Ay n cy) n ((f.embs.take n).flatMap dirCells) := ((oy.alloc _).alloc _).drew
                  have hbW : Blk (((wy.alloc (.cells #[.string d.text, .string d.at_.fn, .int .i64 d.at_.o, .int .i64 d.at_.l, .int .i64 d.at_.c] 90)).alloc (.cells #[.string d.text, .string d.at_.fn, .int .i64 d.at_.o, .int .i64 d.at_.l, .int .i64 d.at_.c] 94)).drew) (wx.heap.size + 1) 86 #[.string f.err, .string f.perr, .string f.name, .string f.syn, .string f.pkg, .bool f.ign, .bool f.bin, .string f.cgo, .string f.con, .slice A1 f.cons.length c1, .slice AI f.imps.length cI, .slice Ay n cy, .slice A4 f.dirs.length c4] := ((hby.alloc _).alloc _).drew
                  have hfW : Blk (((wy.alloc (.cells #[.string d.text, .string d.at_.fn, .int .i64 d.at_.o, .int .i64 d.at_.l, .int .i64 d.at_.c] 90)).alloc (.cells #[.string d.text, .string d.at_.fn, .int .i64 d.at_.o, .int .i64 d.at_.l, .int .i64 d.at_.c] 94)).drew) wx.heap.size 56 #[.string f.err, .string f.perr, .string f.name, .string f.syn, .string f.pkg, .bool f.ign, .bool f.bin, .string f.cgo, .string f.con, .slice A1 f.cons.length c1, .slice A2 f.imps.length c2, .slice (some ⟨gd, od, none⟩) f.embs.length c3, .slice A4 f.dirs.length c4] := ((hFile.alloc _).alloc _).drew
                  have hnb : Value.ownBlock (.slice Ay n cy) ≠ some wy.heap.size := fun e => by have := (oy.lt _ e).2; omega
                  have hbw4 : Below wx.heap.size wx (((wy.alloc (.cells #[.string d.text, .string d.at_.fn, .int .i64 d.at_.o, .int .i64 d.at_.l, .int .i64 d.at_.c] 90)).alloc (.cells #[.string d.text, .string d.at_.fn, .int .i64 d.at_.o, .int .i64 d.at_.l, .int .i64 d.at_.c] 94)).drew) := ((hFy.alloc hszy _).alloc (by simp; omega) _).drew
                  have hread := (reads_row (wy.alloc (.cells #[.string d.text, .string d.at_.fn, .int .i64 d.at_.o, .int .i64 d.at_.l, .int .i64 d.at_.c] 90)) #[.string d.text, .string d.at_.fn, .int .i64 d.at_.o, .int .i64 d.at_.l, .int .i64 d.at_.c] 94 (wy.heap.size + 1) 1 5 rfl (by simp)).drew
                  have hzW : (((wy.alloc (.cells #[.string d.text, .string d.at_.fn, .int .i64 d.at_.o, .int .i64 d.at_.l, .int .i64 d.at_.c] 90)).alloc (.cells #[.string d.text, .string d.at_.fn, .int .i64 d.at_.o, .int .i64 d.at_.l, .int .i64 d.at_.c] 94)).drew).ownsRow wx.heap.size 92 5 (.slice AI f.imps.length cI) f.imps.length (f.imps.flatMap dirCells) := ((oz.alloc _).alloc _).drew
                  have HZW := Lib.hid hzW
                  have HOa := Lib.hid hoW
                  have HBa := Lib.hid hbW
                  have HFa := Lib.hid hfW
                  have HBb := Lib.hid hbw4
                  have HRD := Lib.hid hread
                  have HFYc := Lib.hid hFy
                  clear hoW hbW hfW hbw4 hread hby oy hFile hFy hzW oz
                  go_wp2_with fail
                  refine wp_region_m 14 (fun W => (∀ j, W.cell? ⟨wy.heap.size, j, none⟩ = (#[.string d.text, .string d.at_.fn, .int .i64 d.at_.o, .int .i64 d.at_.l, .int .i64 d.at_.c] : Array Value)[j]?) ∧ W.cell? ⟨wx.heap.size + 1, 11, none⟩ = some (.slice Ay n cy)) (by kernel_rfl) ?_
                  have hHeld := hS0.out
                  refine wpAnyM_take (i := 0) (v := (.pointer (some ⟨wx.heap.size + 1, 0, none⟩))) rfl (by kernel_rfl) (by kernel_rfl) (by kernel_rfl) (by kernel_rfl) (by decide) (fun _ _ _ h => h) (by assumption) (Or.inl ⟨by rfl, ?_⟩) ?_
                  · intro W hSW
                    (try dsimp only at hSW)
                    go_simp
                  (try go_frame)
                  refine wpAnyM_take (i := 1) (v := (.pointer (some ⟨wx.heap.size + 1, 0, none⟩))) rfl (by kernel_rfl) (by kernel_rfl) (by kernel_rfl) (by kernel_rfl) (by decide) (fun _ _ _ h => h) (by assumption) (Or.inl ⟨by rfl, ?_⟩) ?_
                  · intro W hSW
                    (try dsimp only at hSW)
                    go_simp
                  (try go_frame)
                  refine wpAnyM_take (i := 2) (v := (.pointer (some ⟨wx.heap.size + 1, 0, none⟩))) rfl (by kernel_rfl) (by kernel_rfl) (by kernel_rfl) (by kernel_rfl) (by decide) (fun _ _ _ h => h) (by assumption) (Or.inl ⟨by rfl, ?_⟩) ?_
                  · intro W hSW
                    (try dsimp only at hSW)
                    go_simp
                  (try go_frame)
                  refine wpAnyM_take (i := 3) (v := (.pointer (some ⟨wx.heap.size + 1, 11, none⟩))) rfl (by kernel_rfl) (by kernel_rfl) (by kernel_rfl) (by kernel_rfl) (by decide) (fun _ _ _ h => h) (by assumption) (Or.inl ⟨by rfl, ?_⟩) ?_
                  · intro W hSW
                    (try dsimp only at hSW)
                    go_simp
                  (try go_frame)
                  refine wpAnyM_take (i := 4) (v := (.slice Ay n cy)) rfl (by kernel_rfl) (by kernel_rfl) (by kernel_rfl) (by kernel_rfl) (by decide) (fun _ _ _ h => h) (by assumption) (Or.inl ⟨by rfl, ?_⟩) ?_
                  · intro W hSW
                    (try dsimp only at hSW)
                    go_simp
                  (try go_frame)
                  refine wpAnyM_take (i := 5) (v := (.pointer (some ⟨wy.heap.size, 0, none⟩))) rfl (by kernel_rfl) (by kernel_rfl) (by kernel_rfl) (by kernel_rfl) (by decide) (fun _ _ _ h => h) (by assumption) (Or.inl ⟨by rfl, ?_⟩) ?_
                  · intro W hSW
                    (try dsimp only at hSW)
                    go_simp
                  (try go_frame)
                  refine wpAnyM_take (i := 6) (v := (.string d.text)) rfl (by kernel_rfl) (by kernel_rfl) (by kernel_rfl) (by kernel_rfl) (by decide) (fun _ _ _ h => h) (by assumption) (Or.inl ⟨by rfl, ?_⟩) ?_
                  · intro W hSW
                    (try dsimp only at hSW)
                    go_simp
                  (try go_frame)
                  refine wpAnyM_take (i := 7) (v := (.pointer (some ⟨wy.heap.size, 1, none⟩))) rfl (by kernel_rfl) (by kernel_rfl) (by kernel_rfl) (by kernel_rfl) (by decide) (fun _ _ _ h => h) (by assumption) (Or.inl ⟨by rfl, ?_⟩) ?_
                  · intro W hSW
                    (try dsimp only at hSW)
                    go_simp
                  (try go_frame)
                  refine wpAnyM_take (i := 8) (v := (.agg #[.string d.at_.fn, .int .i64 d.at_.o, .int .i64 d.at_.l, .int .i64 d.at_.c])) rfl (by kernel_rfl) (by kernel_rfl) (by kernel_rfl) (by kernel_rfl) (by decide) (fun _ _ _ h => h) (by assumption) (Or.inl ⟨by rfl, ?_⟩) ?_
                  · intro W hSW
                    (try dsimp only at hSW)
                    go_simp
                  (try go_frame)
                  refine wpAnyM_take (i := 9) (v := (.agg #[.string d.text, .string d.at_.fn, .int .i64 d.at_.o, .int .i64 d.at_.l, .int .i64 d.at_.c])) rfl (by kernel_rfl) (by kernel_rfl) (by kernel_rfl) (by kernel_rfl) (by decide) (fun _ _ _ h => h) (by assumption) (Or.inl ⟨by rfl, ?_⟩) ?_
                  · intro W hSW
                    (try dsimp only at hSW)
                    go_simp
                  (try go_frame)
                  refine wpAnyM_only (i := 10) rfl (by kernel_rfl) (fun K hK => ?_)
                  go_simp
                  have hHeld3 : (∀ j, (((wy.alloc (.cells #[.string d.text, .string d.at_.fn, .int .i64 d.at_.o, .int .i64 d.at_.l, .int .i64 d.at_.c] 90)).alloc (.cells #[.string d.text, .string d.at_.fn, .int .i64 d.at_.o, .int .i64 d.at_.l, .int .i64 d.at_.c] 94)).drew).cell? ⟨wy.heap.size, j, none⟩ = (#[.string d.text, .string d.at_.fn, .int .i64 d.at_.o, .int .i64 d.at_.l, .int .i64 d.at_.c] : Array Value)[j]?) ∧ (((wy.alloc (.cells #[.string d.text, .string d.at_.fn, .int .i64 d.at_.o, .int .i64 d.at_.l, .int .i64 d.at_.c] 90)).alloc (.cells #[.string d.text, .string d.at_.fn, .int .i64 d.at_.o, .int .i64 d.at_.l, .int .i64 d.at_.c] 94)).drew).cell? ⟨wx.heap.size + 1, 11, none⟩ = some (.slice Ay n cy) := ⟨keepCells (Below.heap_alloc (wy.alloc (.cells #[.string d.text, .string d.at_.fn, .int .i64 d.at_.o, .int .i64 d.at_.l, .int .i64 d.at_.c] 90)) _ _ (by simp)) hHeld.1, HBa.out.cell 11⟩
                  refine hK.out _ _ (.inr hHeld3) ?_
                  clear hK K
                  (try go_frame)
                  clear hHeld
                  refine wpAnyM_only (i := 11) rfl (by kernel_rfl) (fun K hK => ?_)
                  refine step_append_any _ (by rfl) (.tmp 90) (.tmp 96) _ (by rfl) wx.heap.size 94 i3 _ 5 56 Tryz.underlying84 hi3 hz30 hz31 hz32 (by rfl) (by decide) (.slice Ay n cy) n _ (by rfl) HOa.out _ (some ⟨wy.heap.size + 1, 0, none⟩) 1 1 (dirCells d) (by rfl) HRD.out (dirs_one d) (by unfold maxLen; omega) (by omega) (by simp; omega) ?_
                  intro vA wA hownA hgA _
                  have hbA := HBa.out.grown hgA (fun e => own_blk_ne HOa.out HBa.out (by decide) e.symm)
                  have hfA := HFa.out.grown hgA (fun e => own_blk_ne HOa.out HFa.out (by decide) e.symm)
                  have hzA := HZW.out.kept hgA (own_apart HZW.out HOa.out)
                  obtain ⟨AA, cA, rfl⟩ := own_form' hownA
                  have hHeld4 : (∀ j, wA.cell? ⟨wy.heap.size, j, none⟩ = (#[.string d.text, .string d.at_.fn, .int .i64 d.at_.o, .int .i64 d.at_.l, .int .i64 d.at_.c] : Array Value)[j]?) ∧ wA.cell? ⟨wx.heap.size + 1, 11, none⟩ = some (.slice Ay n cy) := ⟨keepCells (hgA.block _ (by simp; omega) (Ne.symm hnb)) hHeld3.1, hbA.cell 11⟩
                  have hfrA := hbA.frozen 11
                  have hneA : Value.ownBlock (.slice AA (n + 1) cA) ≠ some (wx.heap.size + 1) := own_blk_ne hownA hbA (by decide)
                  have hbF : Blk (wA.setCell ⟨wx.heap.size + 1, 11, none⟩ (.slice AA (n + 1) cA)) (wx.heap.size + 1) 86 #[.string f.err, .string f.perr, .string f.name, .string f.syn, .string f.pkg, .bool f.ign, .bool f.bin, .string f.cgo, .string f.con, .slice A1 f.cons.length c1, .slice AI f.imps.length cI, .slice AA (n + 1) cA, .slice A4 f.dirs.length c4] := hbA.set_ 11 _
                  have hfF : Blk (wA.setCell ⟨wx.heap.size + 1, 11, none⟩ (.slice AA (n + 1) cA)) wx.heap.size 56 #[.string f.err, .string f.perr, .string f.name, .string f.syn, .string f.pkg, .bool f.ign, .bool f.bin, .string f.cgo, .string f.con, .slice A1 f.cons.length c1, .slice A2 f.imps.length c2, .slice (some ⟨gd, od, none⟩) f.embs.length c3, .slice A4 f.dirs.length c4] := hfA.far (by simp) _
                  have hoF : (wA.setCell ⟨wx.heap.size + 1, 11, none⟩ (.slice AA (n + 1) cA)).ownsRow wx.heap.size 94 5 (.slice AA (n + 1) cA) (n + 1) ((f.embs.take (n + 1)).flatMap dirCells) := by
                    rw [hsn.out]
                    exact hownA.kept (grownBy_setCell wA ⟨wx.heap.size + 1, 11, none⟩ _) (.inr hneA)
                  have hwF : Below wx.heap.size wx (wA.setCell ⟨wx.heap.size + 1, 11, none⟩ (.slice AA (n + 1) cA)) := (HBb.out.grown hgA (by simp; omega) (fun j hj => (HOa.out.lt j hj).1)).setCell (by simp) _
                  have hzF : (wA.setCell ⟨wx.heap.size + 1, 11, none⟩ (.slice AA (n + 1) cA)).ownsRow wx.heap.size 92 5 (.slice AI f.imps.length cI) f.imps.length (f.imps.flatMap dirCells) := hzA.kept (grownBy_setCell wA ⟨wx.heap.size + 1, 11, none⟩ _) (.inr (own_blk_ne hzA hbA (by decide)))
                  have HZF := Lib.hid hzF
                  have HbF := Lib.hid hbF
                  have HfF := Lib.hid hfF
                  have HoF := Lib.hid hoF
                  have HwF := Lib.hid hwF
                  clear hbF hfF hoF hwF hneA hownA hgA hbA hfA hzA hzF
                  refine hK.out _ _ (.inr hHeld4) ?_
                  clear hK K
                  (try go_frame)
                  clear hHeld3
                  refine wpAnyM_only (i := 12) rfl (by kernel_rfl) (fun K hK => ?_)
                  go_simp
                  refine hK.out _ _ (.inr hHeld4) ?_
                  clear hK K
                  (try go_frame)
                  refine wpAnyM_take (i := 13) (v := (.pointer (some ⟨wx.heap.size + 1, 11, none⟩))) rfl (by kernel_rfl) (by kernel_rfl) (by kernel_rfl) (by kernel_rfl) (by decide) (fun _ _ _ h => h) (by assumption) (Or.inl ⟨by rfl, ?_⟩) ?_
                  · intro W hSW
                    (try dsimp only at hSW)
                    go_simp
                  (try go_frame)
                  refine wpAnyM_only (i := 14) rfl (by kernel_rfl) (fun K hK => ?_)
                  have hcA := hHeld4.2
                  go_simp
                  refine hK.out _ _ (.inl rfl) ?_
                  clear hK K
                  (try go_frame)
                  refine wpAnyM_done (by kernel_rfl) (NoPanic.normal ?_)
                  clear hHeld4 hcA hfrA
                  go_wp2_with fail
                  go_roundw
                  case rel => exact ⟨n + 1, by omega, by go_num, HwF.out, HfF.out, _, HbF.out, HoF.out, HZF.out⟩
                  case measure => simp [intOf]; omega
                · have hnl : n = f.embs.length := by omega
                  subst hnl
                  rw [List.take_length] at oy
                  obtain ⟨AE, cE, rfl⟩ := own_form' oy
                  obtain ⟨css, o1, o2, o3, o4⟩ := HX.out
                  have htl : (p.files.take m).length = m := List.length_take_of_le (by omega)
                  rw [htl] at o1 o2
                  obtain ⟨Ax, cx, rfl⟩ := own_form' o1
                  have hbY : Blk wy (wo.heap.size + 1) 81 #[.string p.err, .string p.dir, .slice Ax m cx] := hbx.below hFy hbx.lt
                  have hcY : wy.cell? ⟨wo.heap.size + 1, 2, none⟩ = some (.slice Ax m cx) := hbY.cell 2
                  have hbW := hbY.alloc (.cells #[.pointer (some ⟨wx.heap.size + 1, 0, none⟩)] 82)
                  have hoW := (own_below o1 hFy).alloc (.cells #[.pointer (some ⟨wx.heap.size + 1, 0, none⟩)] 82)
                  have hT : RawFileT wy w.heap.size wy.heap.size (.pointer (some ⟨wx.heap.size + 1, 0, none⟩)) f :=
                    ⟨_, _, _, _, _, rfl, hby.lt, hby, ⟨A1, c1, rfl, HC.out.below (hFy.mono hx0)⟩, ⟨AI, cI, rfl, TR.of_own oz⟩, ⟨AE, cE, rfl, TR.of_own oy⟩, ⟨A4, c4, rfl, HD.out.below (hFy.mono hx0)⟩⟩
                  have O4 := Lib.hid o4
                  have HT := Lib.hid hT
                  clear o1 o4 hT hby oy oz hFile hbY
                  go_wp2_with (at_builtin; refine wpList_append_own_at _ rfl (.tmp 105) (.tmp 107) _ rfl wo.heap.size 82 i1 _ 1 8 Tryz.underlying79 hi1 hz10 hz11 hz12 rfl (by decide) (.slice Ax m cx) m css.flatten rfl hoW ⟨wy.heap.size, 0, none⟩ 1 1 [.pointer (some ⟨wx.heap.size + 1, 0, none⟩)] rfl rfl (cell_one_new _ _ _) (one_cell _ rfl) (by unfold maxLen; omega) (by omega) (by simp; omega) ?_; intro v4 w4 hown4 hgrow4 _ hat4; have hb4 := hbW.grown hgrow4 (fun e => own_blk_ne hoW hbW (by decide) e.symm); have hc4 := hb4.cell 2; have hf4 := hb4.frozen 2; have hne4 := own_blk_ne hown4 hb4 (by decide); obtain ⟨A5, c5, rfl⟩ := own_form' hown4)
                  have hS1 : SameOn [82, 81] wy.heap.size wy (w4.setCell ⟨wo.heap.size + 1, 2, none⟩ (.slice A5 (m + 1) c5)) := ((SameOn.below ((Below.refl wy.heap.size wy).alloc (Nat.le_refl _) _) (Nat.le_refl _)).trans (SameOn.own hoW hgrow4 (by decide))).trans (SameOn.setCell (p := ⟨wo.heap.size + 1, 2, none⟩) hb4 (by decide))
                  have hS0 : SameOn [82, 81] wx.heap.size wx (w4.setCell ⟨wo.heap.size + 1, 2, none⟩ (.slice A5 (m + 1) c5)) := (SameOn.below hFy (Nat.le_refl _)).trans (hS1.less hFy.size)
                  have hsz4 : wy.heap.size ≤ (w4.setCell ⟨wo.heap.size + 1, 2, none⟩ (.slice A5 (m + 1) c5)).heap.size := by have := hgrow4.size; simp at this ⊢; omega
                  have hszY := hFy.size
                  have hFF0 : Below wo.heap.size wy (w4.setCell ⟨wo.heap.size + 1, 2, none⟩ (.slice A5 (m + 1) c5)) := (((Below.refl _ wy).alloc (by omega) _).grown hgrow4 (by simp; omega) (fun j hj => (hoW.lt j hj).1)).setCell (by simp) _
                  have hFF : Below wo.heap.size wo (w4.setCell ⟨wo.heap.size + 1, 2, none⟩ (.slice A5 (m + 1) c5)) := (hFx.trans (hFy.mono hszx)).trans hFF0
                  have hL : ListOwn (w4.setCell ⟨wo.heap.size + 1, 2, none⟩ (.slice A5 (m + 1) c5)) wo.heap.size 82 1 (FileP (w4.setCell ⟨wo.heap.size + 1, 2, none⟩ (.slice A5 (m + 1) c5)) w.heap.size (w4.setCell ⟨wo.heap.size + 1, 2, none⟩ (.slice A5 (m + 1) c5)).heap.size) (.slice A5 (m + 1) c5) (p.files.take (m + 1)) := by
                    rw [htm.out]
                    refine ListOwn.snoc (cs := [.pointer (some ⟨wx.heap.size + 1, 0, none⟩)]) (css := css) ?_ (by rw [o2, htl]) o3 (fun i cs x a b => ((O4.out i cs x a b).same hS0 ((hFy.mono hx0).trans (hFF0.mono hsz)) (by decide) (by decide) (by decide)).more (by omega)) rfl ⟨_, rfl, (HT.out.same hS1 (hFF0.mono hsz) (by decide) (by decide) (by decide)).more hsz4⟩
                    rw [htl]
                    exact hown4.kept (grownBy_setCell w4 ⟨wo.heap.size + 1, 2, none⟩ _) (.inr hne4)
                  have hBF : Blk (w4.setCell ⟨wo.heap.size + 1, 2, none⟩ (.slice A5 (m + 1) c5)) (wo.heap.size + 1) 81 #[.string p.err, .string p.dir, .slice A5 (m + 1) c5] := hb4.set_ 2 _
                  have HL2 := Lib.hid hL
                  have HBF := Lib.hid hBF
                  have HFF := Lib.hid hFF
                  clear hL hBF hFF hFF0 hS1 hS0 hown4 hgrow4 hat4 hoW hbW hb4 hc4 hf4 hne4
                  go_roundw
                  case rel => exact ⟨m + 1, by omega, by go_num, HFF.out, _, HBF.out, HL2.out⟩
                  case measure => simp [intOf]; omega
        · have hml : m = p.files.length := by omega
          subst hml
          rw [List.take_length] at hox
          obtain ⟨Ax, cx, rfl⟩ : ∃ A c, vx = .slice A p.files.length c := ListAt.form hox.t.at_
          obtain ⟨css, o1, o2, o3, o4⟩ := HOW.out
          have htl : (ps.take k).length = k := List.length_take_of_le (by omega)
          rw [htl] at o1 o2
          have hoW := (own_below o1 hFx).alloc (.cells #[.pointer (some ⟨wo.heap.size + 1, 0, none⟩)] 78)
          have O4 := Lib.hid o4
          have HOX := Lib.hid hox
          have HBX := Lib.hid hbx
          clear hbx o1 o4 hox
          go_wp2_with (at_builtin; refine wpList_append_own_at _ rfl (.tmp 112) (.tmp 114) _ rfl w.heap.size 78 i0 _ 1 8 Tryz.underlying77 hi0 hz00 hz01 hz02 rfl (by decide) _ k css.flatten rfl hoW ⟨wx.heap.size, 0, none⟩ 1 1 [.pointer (some ⟨wo.heap.size + 1, 0, none⟩)] rfl rfl (cell_one_new _ _ _) (one_cell _ rfl) (by unfold maxLen; omega) (by omega) (by simp; omega) ?_; intro v4 w4 hown4 hgrow4 _ hat4)
          have hS1 : SameOn [78] wx.heap.size wx w4 := (SameOn.below ((Below.refl wx.heap.size wx).alloc (Nat.le_refl _) _) (Nat.le_refl _)).trans (SameOn.own hoW hgrow4 (by decide))
          have hS0 : SameOn [78] wo.heap.size wo w4 := (SameOn.below hFx (Nat.le_refl _)).trans (hS1.less hszx)
          have hsz4 : wx.heap.size ≤ w4.heap.size := by have := hgrow4.size; simp at this; omega
          have hFF0 : Below w.heap.size wx w4 := ((Below.refl _ wx).alloc (by omega) _).grown hgrow4 (by simp; omega) (fun j hj => (hoW.lt j hj).1)
          have hL : ListOwn w4 w.heap.size 78 1 (PkgP w4 w.heap.size w4.heap.size) v4 (ps.take (k + 1)) := by
            rw [hts.out]
            refine ListOwn.snoc (cs := [.pointer (some ⟨wo.heap.size + 1, 0, none⟩)]) (css := css) ?_ (by rw [o2, htl]) o3 (fun i cs x a b => ((O4.out i cs x a b).same hS0 ((hFx.mono hsz).trans hFF0) (by decide) (by decide) (by decide) (by decide) (by decide)).more (by omega)) rfl ?_
            · rw [htl]
              exact hown4
            · have hP : PkgP wx w.heap.size wx.heap.size [.pointer (some ⟨wo.heap.size + 1, 0, none⟩)] p := ⟨_, rfl, _, _, rfl, HBX.out.lt, HBX.out, HOX.out.t⟩
              exact (hP.same hS1 hFF0 (by decide) (by decide) (by decide) (by decide) (by decide)).more hsz4
          have HL2 := Lib.hid hL
          have HFF := Lib.hid ((hF.trans (hFx.mono hsz)).trans hFF0)
          clear hL hFF0 hS1 hS0 hown4 hgrow4 hat4 hoW
          go_roundw
          case rel => exact ⟨k + 1, by omega, by go_num, HL2.out, HFF.out⟩
          case measure => simp [intOf]; omega
    · have hkl : k = ps.length := by omega
      subst hkl
      rw [List.take_length] at hown
      obtain ⟨Ar, cr, rfl, hraw⟩ := rawPkgs_at hown hsz
      have C := module_any cr Ar ps wr HOK.out hraw
      clear hown hraw
      go_wp2_with fail
      refine C.mono ?_
      rintro e w2 ⟨v', rfl, ho2, hb2⟩
      have HO2 := Lib.hid ho2
      clear ho2 C
      go_wp2_with fail
      go_ret
      exact ⟨_, rfl, own_less HO2.out hsz, hF.trans (hb2.mono hsz)⟩
end Go.Proofs.YtanfimeajalffaaGreatDoor
