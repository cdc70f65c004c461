/-
  Words for memory, used by the proofs of this seat: a slice that reads as a list, a block that is known whole, an append onto a row of the call's own. No condition: lemmas alone.
  The encoder: its state as plain data, and the contracts of its methods. Conditions: the premises of each theorem.
  The encoder, more: a number written over another, a length of seven bits a byte. Conditions: the premises of each theorem.
  The encoder, more: a length written as bytes of seven bits each. Conditions: the premises of each theorem.
  The encoder, more: a text appended to a row of bytes, with the block it lies in behind it; the method String. Conditions: the premises of each theorem.
  The encoder, more: its state with its bounds, a place, a new encoder. Conditions: the premises of each theorem.
  Packages as data, and how they lie in memory; the encoder's work as plain functions. No program in sight but for the types' numbers.
  The contract of encodeFile. Condition: a file within the law's bounds, that lies ahead of what the encoder owns. (Printed by wip/genfile.py.)
  The contract of encodePackage. Condition: a package within the law's bounds, that lies ahead of what the encoder owns.
  A new encoder.
-/
import Derived.Test.YtanfimeajalffaaGreatDoorRows
import Derived.Below
import Derived.Laws.OwnMore
import Derived.Deep.AppendLies
import Derived.Deep.Draws
import Derived.Laws.Rows
import Derived.Maps.AppendAt
import Derived.RegionTactic
import Derived.OwnWalk
import Derived.WalkKit
import Derived.WalkSpells
import Derived.WalkLawsBesides
import Derived.Deep.QuietTactic
import Derived.BigQuiet
import Derived.Lib.Endian
import Derived.Lib.EndianBits
import Derived.Lib.Hide
import Derived.Maps.OwnSet
import Derived.Maps.Range
import Derived.Lib.VarintMem
import Derived.Deep.LoopGhost
import Derived.Lib.AppendStr
import Derived.StringKeys
namespace Go.Proofs.YtanfimeajalffaaGreatDoor
section
open Go.RowKit

theorem block_of_add (a : Addr) (n : Nat) : (a.add n).block = a.block := by unfold Addr.add; split <;> rfl
theorem add_of_add (a : Addr) (i j : Nat) : (a.add i).add j = a.add (i + j) := by
  unfold Addr.add
  by_cases hi : i = 0 <;> by_cases hj : j = 0 <;> simp [hi, hj, Nat.add_assoc]

def Reads (w : World) (B size : Nat) (A : Option Addr) (n : Nat) (xs : List Value) : Prop :=
  xs.length = n * size ∧ (0 < n → ∃ ad, A = some ad ∧ ad.block < B ∧ ∀ j u, xs[j]? = some u → w.cell? (ad.add j) = some u)

section
variable {w w' : World} {B B' size n : Nat} {A : Option Addr} {xs : List Value}
theorem Reads.none_ : Reads w B size A 0 [] := ⟨by simp, fun h => absurd h (by omega)⟩
theorem Reads.at_ {k : Nat} (h : Reads w B 1 A n xs) (hk : k < n) : ∃ ad u, A = some ad ∧ ad.block < B ∧ xs[k]? = some u ∧ w.cell? (ad.add k) = some u := by
  obtain ⟨ad, e, hb, hc⟩ := h.2 (by omega)
  have hl : k < xs.length := by have := h.1; omega
  exact ⟨ad, xs[k], e, hb, List.getElem?_eq_getElem hl, hc k _ (List.getElem?_eq_getElem hl)⟩
theorem Reads.keep (h : Reads w B size A n xs) (hk : ∀ p : Addr, p.block < B → w'.cell? p = w.cell? p) : Reads w' B size A n xs :=
  ⟨h.1, fun hn => by
    obtain ⟨ad, e, hb, hc⟩ := h.2 hn
    exact ⟨ad, e, hb, fun j u hu => (hk _ (by rw [block_of_add]; exact hb)).trans (hc j u hu)⟩⟩
theorem Reads.more (h : Reads w B size A n xs) (hB : B ≤ B') : Reads w B' size A n xs :=
  ⟨h.1, fun hn => by
    obtain ⟨ad, e, hb, hc⟩ := h.2 hn
    exact ⟨ad, e, by omega, hc⟩⟩
theorem Reads.below (h : Reads w B size A n xs) (hb : Below B w w') : Reads w' B size A n xs := h.keep fun _ hp => hb.cell hp
theorem Reads.drew (h : Reads w B size A n xs) : Reads w.drew B size A n xs := h
theorem Reads.drewN (h : Reads w B size A n xs) (k : Nat) : Reads (w.drewN k) B size A n xs := h
theorem Reads.alloc (h : Reads w B size A n xs) (hB : B ≤ w.heap.size) (o : Obj) : Reads (w.alloc o) B size A n xs := h.keep fun p hp => World.cell?_alloc_lt w o p (by omega)
theorem Reads.setCell (h : Reads w B size A n xs) {p : Addr} (hB : B ≤ p.block) (u : Value) : Reads (w.setCell p u) B size A n xs :=
  h.keep fun q hq => World.cell?_setCell_other w p q u (fun e => by subst e; omega)
theorem Reads.grown (h : Reads w B size A n xs) {row : Option Nat} (hg : w.grownBy w' row) (hB : B ≤ w.heap.size) (hr : ∀ g, row = some g → B ≤ g) : Reads w' B size A n xs :=
  h.keep fun p hp => World.cell?_of_block (hg.block p.block (by omega) (fun e => by have := hr _ e.symm; omega))
theorem Reads.cut (h : Reads w B size A n xs) {k cap : Nat} (hk : k ≤ n) (hc : n ≤ cap) :
    Reads w B size (if cap = k then A else A.map (·.add (k * size))) (n - k) (xs.drop (k * size)) := by
  refine ⟨by rw [List.length_drop, h.1, Nat.sub_mul], fun hn => ?_⟩
  obtain ⟨ad, rfl, hb, hcell⟩ := h.2 (by omega)
  rw [if_neg (by omega)]
  refine ⟨ad.add (k * size), rfl, by rw [block_of_add]; exact hb, fun j u hu => ?_⟩
  rw [add_of_add]
  exact hcell _ u (by rw [← hu, List.getElem?_drop])
theorem Reads.of_own {base : Nat} {e : TypeId} {c : Nat} (h : w.ownsRow base e size (.slice A n c) n xs) : Reads w w.heap.size size A n xs := by
  refine ⟨h.1, fun hn => ?_⟩
  obtain ⟨g, cap, hv, _, hlt⟩ := h.form hn
  have hA : A = some ⟨g, 0, none⟩ := by injection hv
  subst hA
  exact ⟨_, rfl, hlt, h.cells (g := g) rfl⟩
end

def Blk (w : World) (g : Nat) (t : TypeId) (cs : Array Value) : Prop := w.heap[g]? = some (.cells cs t (0, 0))

section
variable {w w' : World} {g : Nat} {t : TypeId} {cs : Array Value}
theorem Blk.lt (h : Blk w g t cs) : g < w.heap.size := by
  rcases Nat.lt_or_ge g w.heap.size with hlt | hge
  · exact hlt
  · unfold Blk at h; rw [Array.getElem?_eq_none hge] at h; cases h
theorem Blk.cell (h : Blk w g t cs) (i : Nat) : w.cell? ⟨g, i, none⟩ = cs[i]? := cell_of_row w g i cs t (0, 0) h
theorem Blk.frozen (h : Blk w g t cs) (i : Nat) : w.frozen? ⟨g, i, none⟩ = false := by
  unfold Blk at h
  simp [World.frozen?, h]
theorem Blk.new (w : World) (t : TypeId) (cs : Array Value) : Blk (w.alloc (.cells cs t)) w.heap.size t cs := heap_alloc_new w _
theorem Blk.drew (h : Blk w g t cs) : Blk w.drew g t cs := h
theorem Blk.drewN (h : Blk w g t cs) (n : Nat) : Blk (w.drewN n) g t cs := h
theorem Blk.alloc (h : Blk w g t cs) (o : Obj) : Blk (w.alloc o) g t cs := (Below.heap_alloc w o g h.lt).trans h
theorem Blk.set_ (h : Blk w g t cs) (i : Nat) (u : Value) : Blk (w.setCell ⟨g, i, none⟩ u) g t (cs.setIfInBounds i u) := by
  unfold Blk at h ⊢
  simp [World.setCell, Array.getElem?_modify, h]
theorem Blk.far (h : Blk w g t cs) {p : Addr} (hp : g ≠ p.block) (u : Value) : Blk (w.setCell p u) g t cs := (Below.heap_setCell w p u g hp).trans h
theorem Blk.below {B : Nat} (h : Blk w g t cs) (hb : Below B w w') (hg : g < B) : Blk w' g t cs := (hb.block g hg).trans h
theorem Blk.grown {row : Option Nat} (h : Blk w g t cs) (hb : w.grownBy w' row) (hg : some g ≠ row) : Blk w' g t cs := (hb.block g h.lt hg).trans h
theorem Blk.ne_ {g' : Nat} {t' : TypeId} {cs' : Array Value} (h : Blk w g t cs) (h' : Blk w g' t' cs') (hne : t ≠ t') : g ≠ g' := by
  rintro rfl
  unfold Blk at h h'
  rw [h] at h'
  injection h' with h'
  injection h' with _ ht
  exact hne ht
theorem own_blk_ne {base : Nat} {e : TypeId} {size n : Nat} {v : Value} {xs : List Value} (h : w.ownsRow base e size v n xs) (hg : Blk w g t cs) (hne : e ≠ t) : v.ownBlock ≠ some g := by
  rcases h.2 with ⟨rfl, _⟩ | ⟨g', cap, cur, rfl, _, hh, _⟩
  · simp [Value.ownBlock]
  · intro he
    have : g' = g := by simpa [Value.ownBlock] using he
    subst this
    exact Blk.ne_ (t := e) hh hg hne rfl
end

section
variable {P : Program} (w : World)

theorem run_append_of_nil (base : Nat) (t ty e : TypeId) (i : TypeInfo) (size : Nat) (ht : P.underlying t = some (.slice e)) (hi : P.info? e = some i)
    (v : Value) (n : Nat) (xs : List Value) (hown : w.ownsRow base e size v n xs) (c : Nat) : (Builtin.append_ #[t, t] ty #[v, .slice none 0 c]).run P w = .ok v w := by
  rcases hown.2 with ⟨rfl, rfl⟩ | ⟨g, cap, cur, rfl, _, _, hnc, _⟩
  · simp [Builtin.append_, run_underlying ht, sizeOf, typeInfo, hi, Builtin.lenOf, Builtin.firstCells]
  · simp [Builtin.append_, run_underlying ht, sizeOf, typeInfo, hi, Builtin.lenOf, Builtin.firstCells, hnc, storeCells]

theorem run_append_any (base : Nat) (t ty e : TypeId) (i : TypeInfo) (z : Value) (size bytes : Nat) (ht : P.underlying t = some (.slice e)) (hi : P.info? e = some i) (hz : i.zero = some z)
    (hsize : i.size = size) (hby : i.bytes = bytes) (hzs : z.cells.size = size) (hsz : 0 < size)
    (v : Value) (n : Nat) (xs : List Value) (hown : w.ownsRow base e size v n xs)
    (B : Nat) (A : Option Addr) (m c : Nat) (news : List Value) (hr : Reads w B size A m news) (h1 : ∀ u ∈ news, u.oneCell' = true)
    (h63 : n + m ≤ maxLen) (hbytes : (n + m) * bytes ≤ 140737488355328) (hbase : base ≤ w.heap.size) :
    ∃ v' w', (Builtin.append_ #[t, t] ty #[v, .slice A m c]).run P w = .ok v' w' ∧ w'.ownsRow base e size v' (n + m) (xs ++ news) ∧ w.grownBy w' v.ownBlock ∧
      (v'.ownBlock = v.ownBlock ∨ v'.ownBlock = some w.heap.size) := by
  rcases A with _ | ad
  · have hm : m = 0 := by
      rcases Nat.eq_zero_or_pos m with h0 | h0
      · exact h0
      · obtain ⟨ad, h, _⟩ := hr.2 h0
        cases h
    subst hm
    have hn : news = [] := List.eq_nil_of_length_eq_zero (by simpa using hr.1)
    subst hn
    exact ⟨v, w, run_append_of_nil w base t ty e i size ht hi v n xs hown c, by simpa using hown, World.grownBy.refl w _, .inl rfl⟩
  · have hcells : ∀ j u, news[j]? = some u → w.cell? (ad.add j) = some u := by
      intro j u hu
      rcases Nat.eq_zero_or_pos m with h0 | h0
      · subst h0
        have hn : news = [] := List.eq_nil_of_length_eq_zero (by simpa using hr.1)
        subst hn
        simp at hu
      · obtain ⟨ad', h, _, hc⟩ := hr.2 h0
        injection h with h
        subst h
        exact hc j u hu
    obtain ⟨v', w', hrun, h2, h3, _, h5⟩ := run_append_own_at (P := P) w base t ty e i z size bytes ht hi hz hsize hby hzs hsz v n xs hown ad m c news hr.1 hcells h1 h63 hbytes hbase
    exact ⟨v', w', hrun, h2, h3, h5⟩

theorem wp_append_any {o : Oper} {a : Act} {K : Act → World → Prop} {Q : Exit → Act → World → Prop} (s x : Operand) (t : TypeId)
    (ho : o.op = .call { callee := .builtin .append, args := #[s, x], argTypes := #[t, t] })
    (base : Nat) (e : TypeId) (i : TypeInfo) (z : Value) (size bytes : Nat) (ht : P.underlying t = some (.slice e)) (hi : P.info? e = some i) (hz : i.zero = some z)
    (hsize : i.size = size) (hby : i.bytes = bytes) (hzs : z.cells.size = size) (hsz : 0 < size)
    (v : Value) (n : Nat) (xs : List Value) (hs : a.eval s = v) (hown : w.ownsRow base e size v n xs)
    (B : Nat) (A : Option Addr) (m c : Nat) (news : List Value) (hx : a.eval x = .slice A m c) (hr : Reads w B size A m news) (h1 : ∀ u ∈ news, u.oneCell' = true)
    (h63 : n + m ≤ maxLen) (hbytes : (n + m) * bytes ≤ 140737488355328) (hbase : base ≤ w.heap.size)
    (h : ∀ v' w', w'.ownsRow base e size v' (n + m) (xs ++ news) → w.grownBy w' v.ownBlock → (v'.ownBlock = v.ownBlock ∨ v'.ownBlock = some w.heap.size) → K (a.put o.dst v') w') : o.wp P a w K Q := by
  obtain ⟨v', w', hrun, h2, h3, h4⟩ := run_append_any (P := P) w base t o.type e i z size bytes ht hi hz hsize hby hzs hsz v n xs hown B A m c news hr h1 h63 hbytes hbase
  unfold Oper.wp execOp
  simp only [ho, resolve, invoke, builtin, Sem.run_bind, Sem.run_pure, Result.andThen_ok, List.map_toArray, List.map_cons, List.map_nil, hs, hx, hrun]
  exact h v' w' h2 h3 h4

theorem wpList_append_any {ops : Array Oper} {rest : List Oper} {o : Oper} {a : Act} {Q : Exit → Act → World → Prop} (hgd : o.guard = none) (s x : Operand) (t : TypeId)
    (ho : o.op = .call { callee := .builtin .append, args := #[s, x], argTypes := #[t, t] })
    (base : Nat) (e : TypeId) (i : TypeInfo) (z : Value) (size bytes : Nat) (ht : P.underlying t = some (.slice e)) (hi : P.info? e = some i) (hz : i.zero = some z)
    (hsize : i.size = size) (hby : i.bytes = bytes) (hzs : z.cells.size = size) (hsz : 0 < size)
    (v : Value) (n : Nat) (xs : List Value) (hs : a.eval s = v) (hown : w.ownsRow base e size v n xs)
    (B : Nat) (A : Option Addr) (m c : Nat) (news : List Value) (hx : a.eval x = .slice A m c) (hr : Reads w B size A m news) (h1 : ∀ u ∈ news, u.oneCell' = true)
    (h63 : n + m ≤ maxLen) (hbytes : (n + m) * bytes ≤ 140737488355328) (hbase : base ≤ w.heap.size)
    (h : ∀ v' w', w'.ownsRow base e size v' (n + m) (xs ++ news) → w.grownBy w' v.ownBlock → (v'.ownBlock = v.ownBlock ∨ v'.ownBlock = some w.heap.size) → wpList P ops Q rest (a.put o.dst v') w') : wpList P ops Q (o :: rest) a w :=
  wpList_plain hgd fun _ hK => wp_append_any w s x t ho base e i z size bytes ht hi hz hsize hby hzs hsz v n xs hs hown B A m c news hx hr h1 h63 hbytes hbase fun v' w' h2 h3 h4 => hK _ _ (h v' w' h2 h3 h4)

theorem step_append_any {ops : Array Oper} {o : Oper} {a : Act} {K : Act → World → Prop} {Q : Exit → Act → World → Prop} {E : Prop} (hgd : o.guard = none) (s x : Operand) (t : TypeId)
    (ho : o.op = .call { callee := .builtin .append, args := #[s, x], argTypes := #[t, t] })
    (base : Nat) (e : TypeId) (i : TypeInfo) (z : Value) (size bytes : Nat) (ht : P.underlying t = some (.slice e)) (hi : P.info? e = some i) (hz : i.zero = some z)
    (hsize : i.size = size) (hby : i.bytes = bytes) (hzs : z.cells.size = size) (hsz : 0 < size)
    (v : Value) (n : Nat) (xs : List Value) (hs : a.eval s = v) (hown : w.ownsRow base e size v n xs)
    (B : Nat) (A : Option Addr) (m c : Nat) (news : List Value) (hx : a.eval x = .slice A m c) (hr : Reads w B size A m news) (h1 : ∀ u ∈ news, u.oneCell' = true)
    (h63 : n + m ≤ maxLen) (hbytes : (n + m) * bytes ≤ 140737488355328) (hbase : base ≤ w.heap.size)
    (h : ∀ v' w', w'.ownsRow base e size v' (n + m) (xs ++ news) → w.grownBy w' v.ownBlock → (v'.ownBlock = v.ownBlock ∨ v'.ownBlock = some w.heap.size) → K (a.put o.dst v') w') :
    if Region.wanted o (yielded ops a.tmps) = true then Oper.wp P o a w K Q else E := by
  have hw : Region.wanted o (yielded ops a.tmps) = true := by simp [Region.wanted, hgd]
  rw [if_pos hw]
  exact wp_append_any w s x t ho base e i z size bytes ht hi hz hsize hby hzs hsz v n xs hs hown B A m c news hx hr h1 h63 hbytes hbase h
end
end
section
open Go.RowKit

theorem bc_getElem (l : List UInt8) (j : Nat) (hj : j < l.length) : (Lib.byteCells l)[j]? = some (.int .u8 (l[j]).toNat) := by
  simp [Lib.byteCells, hj]
theorem bc_one (l : List UInt8) : ∀ u ∈ Lib.byteCells l, u.oneCell' = true := by
  intro u hu
  simp only [Lib.byteCells, List.mem_map] at hu
  obtain ⟨b, _, rfl⟩ := hu
  rfl
theorem bc_append (a b : List UInt8) : Lib.byteCells (a ++ b) = Lib.byteCells a ++ Lib.byteCells b := by simp [Lib.byteCells]
theorem bc_length (a : List UInt8) : (Lib.byteCells a).length = a.length := by simp [Lib.byteCells]

theorem one_cell (v : Value) (h : v.oneCell' = true) : ∀ u ∈ [v], u.oneCell' = true := by
  intro u hu
  simp at hu
  subst hu
  exact h

theorem u8_info : (Tryz.prog.info? 5).map (fun i => (i.zero, i.size, i.bytes)) = some (some (.int .u8 0), 1, 1) := by kernel_rfl

theorem info_parts' {t : TypeId} {z : Value} {s b : Nat} (h : (Tryz.prog.info? t).map (fun i => (i.zero, i.size, i.bytes)) = some (some z, s, b)) : ∃ i, Tryz.prog.info? t = some i ∧ i.zero = some z ∧ i.size = s ∧ i.bytes = b := by
  cases hi : Tryz.prog.info? t with
  | none => rw [hi] at h; cases h
  | some i =>
    rw [hi] at h
    simp at h
    exact ⟨i, rfl, h.1, h.2.1, h.2.2⟩

theorem le_cells (n : Nat) (hn : n < 4294967296) : Lib.byteCells (Lib.leBytes 4 n) = [Value.int .u8 ((n : Int) % 256), Value.int .u8 ((n : Int) / 256 % 256), Value.int .u8 ((n : Int) / 65536 % 256), Value.int .u8 ((n : Int) / 16777216)] := by
  have e0 : ((n % 256 : Nat) : Int) = (n : Int) % 256 := by omega
  have e1 : ((n / 256 % 256 : Nat) : Int) = (n : Int) / 256 % 256 := by omega
  have e2 : ((n / 256 / 256 % 256 : Nat) : Int) = (n : Int) / 65536 % 256 := by omega
  have e3 : ((n / 256 / 256 / 256 % 256 : Nat) : Int) = (n : Int) / 16777216 := by omega
  simp only [Lib.byteCells, Lib.leBytes, List.map, Lib.toUInt8_mod, e0, e1, e2, e3]

/-- What an append to a row of bytes leaves: the row, and where it lies. -/
def Longer (base : Nat) (w w' : World) (v v' : Value) (l : List UInt8) : Prop :=
  w'.ownsRow base 5 1 v' l.length (Lib.byteCells l) ∧ w.grownBy w' v.ownBlock ∧ ∀ k, v'.ownBlock = some k → v.ownBlock = some k ∨ w.heap.size ≤ k

set_option maxHeartbeats 1000000 in
theorem leAppend_any (base n : Nat) (v : Value) (l : List UInt8) (w : World) (hn : n < 4294967296) (ho : w.ownsRow base 5 1 v l.length (Lib.byteCells l)) (hl : l.length ≤ 100000000) (hbs : base ≤ w.heap.size) :
    Calls Tryz.prog 83 #[v, .int .u32 (n : Int)] w fun e w' => ∃ v', e = .returned v' ∧ Longer base w w' v v' (l ++ Lib.leBytes 4 n) := by
  obtain ⟨i0, hi0, hz0, hz1, hz2⟩ := info_parts' u8_info
  have HC := Lib.hid (le_cells n hn)
  have hbs' : base ≤ (w.alloc (.cells #[Value.int .u8 ((n : Int) % 256), Value.int .u8 ((n : Int) / 256 % 256), Value.int .u8 ((n : Int) / 65536 % 256), Value.int .u8 ((n : Int) / 16777216)] 5)).heap.size := by simp; omega
  have ho' := ho.alloc (.cells #[Value.int .u8 ((n : Int) % 256), Value.int .u8 ((n : Int) / 256 % 256), Value.int .u8 ((n : Int) / 65536 % 256), Value.int .u8 ((n : Int) / 16777216)] 5)
  have hnew : ∀ j u, (Lib.byteCells (Lib.leBytes 4 n))[j]? = some u → (w.alloc (.cells #[Value.int .u8 ((n : Int) % 256), Value.int .u8 ((n : Int) / 256 % 256), Value.int .u8 ((n : Int) / 65536 % 256), Value.int .u8 ((n : Int) / 16777216)] 5)).cell? ((⟨w.heap.size, 0, none⟩ : Addr).add j) = some u := by
    intro j u hj
    rw [HC.out] at hj
    have hadd : (⟨w.heap.size, 0, none⟩ : Addr).add j = ⟨w.heap.size, j, none⟩ := by unfold Addr.add; split <;> simp_all
    rw [hadd, cell_of_row _ w.heap.size j _ _ (0, 0) (heap_alloc_new w _)]
    simpa using hj
  go_enter Tryz.func83, Tryz.ntmps83
  go_wp2_with (at_builtin; refine wpList_append_own_at _ rfl (.tmp 5) (.tmp 17) _ rfl base 5 i0 (.int .u8 0) 1 1 Tryz.underlying26 hi0 hz0 hz1 hz2 rfl (by decide) v l.length (Lib.byteCells l) rfl ho' ⟨w.heap.size, 0, none⟩ 4 4 (Lib.byteCells (Lib.leBytes 4 n)) rfl (by rw [bc_length]; simp [Lib.leBytes]) hnew (bc_one _) (by unfold maxLen; omega) (by omega) hbs' ?_; intro v4 w4 hown4 hgrow4 _ hat4)
  have hlen : (Lib.leBytes 4 n).length = 4 := by simp [Lib.leBytes]
  have hL : Longer base w w4 v v4 (l ++ Lib.leBytes 4 n) := by
    refine ⟨?_, ((World.grownBy_alloc w _ none).but v.ownBlock).trans hgrow4, fun k hk => ?_⟩
    · rw [List.length_append, hlen, bc_append]
      exact hown4
    · rcases hat4 with h | h
      · exact .inl (h ▸ hk)
      · rw [h] at hk
        injection hk with hk
        simp at hk
        exact .inr (by omega)
  go_ret
  exact ⟨v4, rfl, hL⟩

theorem longer_of {base : Nat} {w w' : World} {v v' : Value} {l x : List UInt8} (h : w'.ownsRow base 5 1 v' (l.length + x.length) (Lib.byteCells l ++ Lib.byteCells x)) (hg : w.grownBy w' v.ownBlock) (hat : v'.ownBlock = v.ownBlock ∨ v'.ownBlock = some w.heap.size) : Longer base w w' v v' (l ++ x) := by
  refine ⟨by rw [List.length_append, bc_append]; exact h, hg, fun k hk => ?_⟩
  rcases hat with h | h
  · exact .inl (h ▸ hk)
  · rw [h] at hk
    injection hk with hk
    exact .inr (by omega)

/-- The encoder's state as plain data: the bytes, the table of texts, the places of the texts. -/
structure ES where
  b : List UInt8
  t : List UInt8
  d : List (ByteArray × Nat)

/-- The place of a text. -/
def look : List (ByteArray × Nat) → ByteArray → Option Nat
  | [], _ => none
  | (k, n) :: r, s => if k = s then some n else look r s

/-- The places, as a map reads. -/
def DictIs (D : DataW Unit) (d : List (ByteArray × Nat)) : Prop :=
  ∀ s : ByteArray, Maps.has D (.string s.data.toList) = (look d s).isSome ∧ ∀ n, look d s = some n → ∀ z, D.atKey (.string s.data.toList) z = .lit (.int .i64 (n : Int))

/-- All places are less than the table is long, and there are at most as many. -/
def Good (es : ES) : Prop := (∀ s n, look es.d s = some n → n < es.t.length) ∧ es.d.length ≤ es.t.length

/-- An encoder lies in block E, all that it owns at or behind base. -/
def Enc (w : World) (base E : Nat) (es : ES) : Prop :=
  ∃ vb vt M D n, Blk w E 137 #[vb, vt, .map (some M)] ∧ base ≤ E ∧ base ≤ M ∧
    w.ownsRow base 5 1 vb es.b.length (Lib.byteCells es.b) ∧ w.ownsRow base 5 1 vt es.t.length (Lib.byteCells es.t) ∧ (vb.ownBlock = none ∨ vb.ownBlock ≠ vt.ownBlock) ∧
    w.ownsMap Tryz.prog 9 (Go.plainElem Tryz.prog 3) M n D ∧ n ≤ es.d.length ∧ DictIs D es.d

/-- Block g is none of the encoder's. -/
def Apart (w : World) (E g : Nat) : Prop :=
  g < w.heap.size ∧ ∃ vb vt M, Blk w E 137 #[vb, vt, .map (some M)] ∧ g ≠ E ∧ g ≠ M ∧ vb.ownBlock ≠ some g ∧ vt.ownBlock ≠ some g

/-- What a method of the encoder leaves: all that lay ahead of base, and all that is none of the encoder's. -/
def Fr (base E : Nat) (w w' : World) : Prop := Below base w w' ∧ ∀ g, Apart w E g → Apart w' E g ∧ w'.heap[g]? = w.heap[g]?

theorem Fr.refl (base E : Nat) (w : World) : Fr base E w w := ⟨Below.refl base w, fun _ h => ⟨h, rfl⟩⟩
theorem Fr.trans {base E : Nat} {a b c : World} (h : Fr base E a b) (k : Fr base E b c) : Fr base E a c :=
  ⟨h.1.trans k.1, fun g hg => ⟨(k.2 g (h.2 g hg).1).1, (k.2 g (h.2 g hg).1).2.trans (h.2 g hg).2⟩⟩
theorem Apart.alloc {w : World} {E g : Nat} (h : Apart w E g) (o : Obj) : Apart (w.alloc o) E g := by
  obtain ⟨h1, vb, vt, M, hE, h2⟩ := h
  exact ⟨by simp; omega, vb, vt, M, hE.alloc o, h2⟩
theorem Fr.alloc {base E : Nat} {a w : World} (h : Fr base E a w) (hB : base ≤ w.heap.size) (o : Obj) : Fr base E a (w.alloc o) :=
  ⟨h.1.alloc hB o, fun g hg => ⟨(h.2 g hg).1.alloc o, (Below.heap_alloc w o g (h.2 g hg).1.1).trans (h.2 g hg).2⟩⟩
theorem Fr.cell {base E : Nat} {w w' : World} (h : Fr base E w w') {p : Addr} (hp : Apart w E p.block) : w'.cell? p = w.cell? p := World.cell?_of_block (w := w) (h.2 p.block hp).2

theorem own_form' {w : World} {base : Nat} {e : TypeId} {size n : Nat} {v : Value} {xs : List Value} (h : w.ownsRow base e size v n xs) : ∃ A c, v = .slice A n c := by
  rcases h.2 with ⟨rfl, rfl⟩ | ⟨g, cap, cur, rfl, _⟩
  · exact ⟨none, 0, rfl⟩
  · exact ⟨_, cap, rfl⟩

theorem blk_inj {w : World} {E : Nat} {t : TypeId} {a b a' b' : Value} {M M' : Nat} (h : Blk w E t #[a, b, .map (some M)]) (h' : Blk w E t #[a', b', .map (some M')]) : a = a' ∧ b = b' ∧ M = M' := by
  unfold Blk at h h'
  rw [h] at h'
  injection h' with h'
  injection h' with h'
  simp at h'
  exact h'

theorem grownBy_setCell (w : World) (p : Addr) (u : Value) : w.grownBy (w.setCell p u) (some p.block) :=
  ⟨rfl, rfl, rfl, by simp, fun k _ hk => heap_setCell_other w p k u (fun e => hk (by simp [e]))⟩

theorem own_map_ne {w : World} {base n M m : Nat} {e : TypeId} {v : Value} {xs : List Value} {D : DataW Unit} {k : TypeId} {R} {size : Nat} (h : w.ownsRow base e size v n xs) (hm : w.ownsMap Tryz.prog k R M m D) : v.ownBlock ≠ some M := by
  intro hk
  obtain ⟨es, clock, hb, _⟩ := hm
  rcases h.2 with ⟨rfl, _⟩ | ⟨g, cap, cur, rfl, _, hg, _⟩
  · simp [Value.ownBlock] at hk
  · simp [Value.ownBlock] at hk
    subst hk
    rw [hg] at hb
    cases hb
theorem blk_map_ne {w : World} {E M m : Nat} {t : TypeId} {cs : Array Value} {D : DataW Unit} {k : TypeId} {R} (h : Blk w E t cs) (hm : w.ownsMap Tryz.prog k R M m D) : E ≠ M := by
  rintro rfl
  obtain ⟨es, clock, hb, _⟩ := hm
  unfold Blk at h
  rw [h] at hb
  cases hb

/-- The first field written: the bytes have grown. -/
theorem Enc.store0 {base E M m : Nat} {vb vt v1 : Value} {D : DataW Unit} {es : ES} {l : List UInt8} {w w1 : World} (hE : Blk w E 137 #[vb, vt, .map (some M)]) (hbE : base ≤ E) (hbM : base ≤ M)
    (hob : w.ownsRow base 5 1 vb es.b.length (Lib.byteCells es.b)) (hot : w.ownsRow base 5 1 vt es.t.length (Lib.byteCells es.t)) (hne : vb.ownBlock = none ∨ vb.ownBlock ≠ vt.ownBlock)
    (hom : w.ownsMap Tryz.prog 9 (Go.plainElem Tryz.prog 3) M m D) (hm : m ≤ es.d.length) (hD : DictIs D es.d) (hL : Longer base w w1 vb v1 l) :
    Enc (w1.setCell ⟨E, 0, none⟩ v1) base E { es with b := l } ∧ Fr base E w (w1.setCell ⟨E, 0, none⟩ v1) ∧ w1.cell? ⟨E, 0, none⟩ = some vb ∧ w1.frozen? ⟨E, 0, none⟩ = false := by
  obtain ⟨h1, hg, hat⟩ := hL
  have hEb : vb.ownBlock ≠ some E := own_blk_ne hob hE (by decide)
  have hEt : vt.ownBlock ≠ some E := own_blk_ne hot hE (by decide)
  have hE1 : Blk w1 E 137 #[vb, vt, .map (some M)] := hE.grown hg hEb.symm
  have hE' : v1.ownBlock ≠ some E := own_blk_ne h1 hE1 (by decide)
  have hne1 : ∀ k, v1.ownBlock = some k → vt.ownBlock ≠ some k := by
    intro k hk ht
    rcases hat k hk with h | h
    · rcases hne with h' | h'
      · rw [h'] at h; cases h
      · exact h' (h.trans ht.symm)
    · have := (hot.lt k ht).2
      omega
  have hot1 : w1.ownsRow base 5 1 vt es.t.length (Lib.byteCells es.t) := by
    refine hot.kept hg ?_
    rcases hne with h | h
    · rw [h]
      cases vt.ownBlock <;> simp
    · exact .inr h.symm
  have hom1 := hom.kept hg (own_map_ne hob hom).symm
  have hME : M ≠ E := fun h => blk_map_ne hE hom h.symm
  have hS := grownBy_setCell w1 ⟨E, 0, none⟩ v1
  refine ⟨⟨v1, vt, M, D, m, ?_, hbE, hbM, h1.kept hS (.inr hE'), hot1.kept hS (.inr hEt), ?_, hom1.kept hS (by simpa using hME), hm, hD⟩, ⟨((Below.refl base w).grown hg (by have := hE.lt; omega) (fun k hk => (hob.lt k hk).1)).setCell hbE _, fun g hg2 => ?_⟩, hE1.cell 0, hE1.frozen 0⟩
  · exact hE1.set_ 0 v1
  · cases h : v1.ownBlock with
    | none => exact .inl rfl
    | some k => exact .inr fun h2 => hne1 k h h2.symm
  · obtain ⟨hlt, vb', vt', M', hE2, g1, g2, g3, g4⟩ := hg2
    obtain ⟨rfl, rfl, rfl⟩ := blk_inj hE hE2
    refine ⟨⟨?_, v1, vt, M, hE1.set_ 0 v1, g1, g2, fun h => ?_, g4⟩, (Below.heap_setCell w1 _ v1 g g1).trans (hg.block g hlt (Ne.symm g3))⟩
    · have := hg.size
      simp
      omega
    · rcases hat g h with h | h
      · exact g3 h
      · omega

set_option maxHeartbeats 1000000 in
theorem uint32_any (base E n : Nat) (es : ES) (w : World) (hn : n < 4294967296) (hl : es.b.length ≤ 100000000) (h : Enc w base E es) :
    Calls Tryz.prog 61 #[.pointer (some ⟨E, 0, none⟩), .int .u32 (n : Int)] w fun e w' => e = .returned (.tuple #[]) ∧ Enc w' base E { es with b := es.b ++ Lib.leBytes 4 n } ∧ Fr base E w w' := by
  obtain ⟨vb, vt, M, D, m, hE, hbE, hbM, hob, hot, hne, hom, hm, hD⟩ := h
  have hc0 : w.cell? ⟨E, 0, none⟩ = some vb := hE.cell 0
  have hlt := hE.lt
  have C := leAppend_any base n vb es.b w hn hob hl (by omega)
  go_enter Tryz.func61, Tryz.ntmps61
  go_wp2_with fail
  refine C.mono ?_
  rintro e w1 ⟨v1, rfl, hL⟩
  clear C
  obtain ⟨hEnc, hbw, hcE, hfE⟩ := Enc.store0 hE hbE hbM hob hot hne hom hm hD hL
  obtain ⟨A1, c1, rfl⟩ := own_form' hL.1
  rw [List.length_append] at hEnc hbw
  have HE := Lib.hid hEnc
  have HB := Lib.hid hbw
  clear hEnc hbw hL hob hot hom hE
  go_wp2_with fail
  refine bodyPost_end (results_none rfl _ _ _) rfl ?_
  exact ⟨rfl, HE.out, HB.out⟩

theorem pos_any (base E : Nat) (es : ES) (w : World) (h : Enc w base E es) :
    Calls Tryz.prog 60 #[.pointer (some ⟨E, 0, none⟩)] w fun e w' => e = .returned (.int .i64 es.b.length) ∧ w = w' := by
  obtain ⟨vb, vt, M, D, m, hE, hbE, hbM, hob, hot, hne, hom, hm, hD⟩ := h
  have hc0 : w.cell? ⟨E, 0, none⟩ = some vb := hE.cell 0
  obtain ⟨A1, c1, rfl⟩ := own_form' hob
  clear hE hob hot hne hom hm hD
  go_enter Tryz.func60, Tryz.ntmps60
  go_wp2_with fail
  go_ret
  exact ⟨rfl, rfl⟩

set_option maxHeartbeats 1000000 in
theorem int_any (base E n : Nat) (es : ES) (w : World) (hn : n < 2147483648) (hl : es.b.length ≤ 100000000) (h : Enc w base E es) :
    Calls Tryz.prog 65 #[.pointer (some ⟨E, 0, none⟩), .int .i64 (n : Int)] w fun e w' => e = .returned (.tuple #[]) ∧ Enc w' base E { es with b := es.b ++ Lib.leBytes 4 n } ∧ Fr base E w w' := by
  have C := uint32_any base E n es w (by omega) hl h
  go_enter Tryz.func65, Tryz.ntmps65
  go_wp2_with fail
  refine C.mono ?_
  rintro e w1 ⟨rfl, hE, hB⟩
  go_wp2_with fail
  refine bodyPost_end (results_none rfl _ _ _) rfl ?_
  exact ⟨rfl, hE, hB⟩

theorem bool_any (base E : Nat) (b : Bool) (es : ES) (w : World) (hl : es.b.length ≤ 100000000) (h : Enc w base E es) :
    Calls Tryz.prog 104 #[.pointer (some ⟨E, 0, none⟩), .bool b] w fun e w' => e = .returned (.tuple #[]) ∧ Enc w' base E { es with b := es.b ++ Lib.leBytes 4 b.toNat } ∧ Fr base E w w' := by
  have C := uint32_any base E b.toNat es w (by cases b <;> decide) hl h
  cases b
  all_goals
    go_enter Tryz.func104, Tryz.ntmps104
    go_wp2_with fail
    refine C.mono ?_
    rintro e w1 ⟨rfl, hE, hB⟩
    go_wp2_with fail
    refine bodyPost_end (results_none rfl _ _ _) rfl ?_
    exact ⟨rfl, hE, hB⟩

set_option maxHeartbeats 1000000 in
theorem bytes_any (base E c B : Nat) (A : Option Addr) (l : List UInt8) (es : ES) (w : World) (hl : es.b.length ≤ 100000000) (hl2 : l.length ≤ 100000000) (hr : Reads w B 1 A l.length (Lib.byteCells l)) (h : Enc w base E es) :
    Calls Tryz.prog 59 #[.pointer (some ⟨E, 0, none⟩), .slice A l.length c] w fun e w' => e = .returned (.tuple #[]) ∧ Enc w' base E { es with b := es.b ++ l } ∧ Fr base E w w' := by
  obtain ⟨i0, hi0, hz0, hz1, hz2⟩ := info_parts' u8_info
  obtain ⟨vb, vt, M, D, m, hE, hbE, hbM, hob, hot, hne, hom, hm, hD⟩ := h
  have hc0 : w.cell? ⟨E, 0, none⟩ = some vb := hE.cell 0
  have hlt := hE.lt
  go_enter Tryz.func59, Tryz.ntmps59
  go_wp2_with (at_builtin; refine wpList_append_any _ rfl (.tmp 8) (.tmp 9) _ rfl base 5 i0 (.int .u8 0) 1 1 Tryz.underlying26 hi0 hz0 hz1 hz2 rfl (by decide) vb es.b.length (Lib.byteCells es.b) rfl hob B A l.length c (Lib.byteCells l) rfl hr (bc_one _) (by unfold maxLen; omega) (by omega) (by omega) ?_; intro v2 w2 hown2 hg2 hat2; obtain ⟨hEnc, hbw, hcE, hfE⟩ := Enc.store0 hE hbE hbM hob hot hne hom hm hD (longer_of hown2 hg2 hat2); obtain ⟨A1, c1, rfl⟩ := own_form' hown2; have HE := Lib.hid hEnc; have HB := Lib.hid hbw; clear hEnc hbw hown2 hg2 hat2 hob hot hom hE hr)
  refine bodyPost_end (results_none rfl _ _ _) rfl ?_
  exact ⟨rfl, HE.out, HB.out⟩
end
section
open Go.RowKit

/-- A number laid over four bytes. -/
def patch (l : List UInt8) (a n : Nat) : List UInt8 :=
  (((l.set a (n % 256).toUInt8).set (a + 1) (n / 256 % 256).toUInt8).set (a + 2) (n / 65536 % 256).toUInt8).set (a + 3) (n / 16777216 % 256).toUInt8

theorem patch_length (l : List UInt8) (a n : Nat) : (patch l a n).length = l.length := by simp [patch]

theorem bc_set (l : List UInt8) (j : Nat) (b : UInt8) : Lib.byteCells (l.set j b) = (Lib.byteCells l).set j (.int .u8 b.toNat) := by simp [Lib.byteCells, List.map_set]

theorem patch_cells (l : List UInt8) (a n : Nat) (hn : n < 4294967296) : Lib.byteCells (patch l a n) =
    ((((Lib.byteCells l).set a (.int .u8 ((n : Int) % 256))).set (a + 1) (.int .u8 ((n : Int) / 256 % 256))).set (a + 2) (.int .u8 ((n : Int) / 65536 % 256))).set (a + 3) (.int .u8 ((n : Int) / 16777216)) := by
  have e0 : ((n % 256 : Nat) : Int) = (n : Int) % 256 := by omega
  have e1 : ((n / 256 % 256 : Nat) : Int) = (n : Int) / 256 % 256 := by omega
  have e2 : ((n / 65536 % 256 : Nat) : Int) = (n : Int) / 65536 % 256 := by omega
  have e3 : ((n / 16777216 % 256 : Nat) : Int) = (n : Int) / 16777216 := by omega
  simp only [patch, bc_set, Lib.toUInt8_mod, e0, e1, e2, e3]

set_option maxHeartbeats 1000000 in
theorem lePut_any (g o m c n : Nat) (b0 b1 b2 b3 : Int) (w : World) (hn : n < 4294967296) (hm : 4 ≤ m)
    (f0 : w.frozen? ⟨g, o, none⟩ = false) (f1 : w.frozen? ⟨g, o + 1, none⟩ = false) (f2 : w.frozen? ⟨g, o + 2, none⟩ = false) (f3 : w.frozen? ⟨g, o + 3, none⟩ = false)
    (c0 : w.cell? ⟨g, o, none⟩ = some (.int .u8 b0)) (c1 : w.cell? ⟨g, o + 1, none⟩ = some (.int .u8 b1)) (c2 : w.cell? ⟨g, o + 2, none⟩ = some (.int .u8 b2)) (c3 : w.cell? ⟨g, o + 3, none⟩ = some (.int .u8 b3)) :
    Calls Tryz.prog 88 #[.slice (some ⟨g, o, none⟩) m c, .int .u32 (n : Int)] w fun e w' => e = .returned (.tuple #[]) ∧
      w' = (((w.setCell ⟨g, o, none⟩ (.int .u8 ((n : Int) % 256))).setCell ⟨g, o + 1, none⟩ (.int .u8 ((n : Int) / 256 % 256))).setCell ⟨g, o + 2, none⟩ (.int .u8 ((n : Int) / 65536 % 256))).setCell ⟨g, o + 3, none⟩ (.int .u8 ((n : Int) / 16777216)) := by
  have n0 : (0 : Int) < (m : Int) := by omega
  have n1 : (1 : Int) < (m : Int) := by omega
  have n2 : (2 : Int) < (m : Int) := by omega
  have n3 : (3 : Int) < (m : Int) := by omega
  go_enter Tryz.func88, Tryz.ntmps88
  go_wp2_with fail
  refine bodyPost_end (results_none rfl _ _ _) rfl ?_
  exact ⟨rfl, rfl⟩

set_option maxHeartbeats 1000000 in
/-- A number written over another, in an encoder's bytes. -/
theorem encIntAt_any (base E n a : Nat) (es : ES) (w : World) (hn : n < 2147483648) (ha : a + 4 ≤ es.b.length) (hl : es.b.length ≤ 100000000) (h : Enc w base E es) :
    Calls Tryz.prog 67 #[.pointer (some ⟨E, 0, none⟩), .int .i64 (n : Int), .int .i64 (a : Int)] w fun e w' => e = .returned (.tuple #[]) ∧ Enc w' base E { es with b := patch es.b a n } ∧ Fr base E w w' := by
  obtain ⟨vb, vt, M, D, m, hE, hbE, hbM, hob, hot, hne, hom, hm, hD⟩ := h
  have hc0 : w.cell? ⟨E, 0, none⟩ = some vb := hE.cell 0
  obtain ⟨g, cap, rfl, hgb, hglt⟩ := hob.form (by omega)
  have hcell : ∀ j (hj : j < es.b.length), w.cell? ⟨g, j, none⟩ = some (.int .u8 (es.b[j]).toNat) := fun j hj => by rw [hob.cellAt j (by omega)]; exact bc_getElem _ _ hj
  have hfr : ∀ j, w.frozen? ⟨g, j, none⟩ = false := fun j => hob.frozenAt j
  have hcap : es.b.length ≤ cap := by
    rcases hob.2 with ⟨h, _⟩ | ⟨g', cap', cur, h, _, _, h2, _⟩
    · cases h
    · injection h with _ _ h3
      omega
  have hS : Enc ((((w.setCell ⟨g, a, none⟩ (.int .u8 ((n : Int) % 256))).setCell ⟨g, a + 1, none⟩ (.int .u8 ((n : Int) / 256 % 256))).setCell ⟨g, a + 2, none⟩ (.int .u8 ((n : Int) / 65536 % 256))).setCell ⟨g, a + 3, none⟩ (.int .u8 ((n : Int) / 16777216))) base E { es with b := patch es.b a n } ∧
      Fr base E w ((((w.setCell ⟨g, a, none⟩ (.int .u8 ((n : Int) % 256))).setCell ⟨g, a + 1, none⟩ (.int .u8 ((n : Int) / 256 % 256))).setCell ⟨g, a + 2, none⟩ (.int .u8 ((n : Int) / 65536 % 256))).setCell ⟨g, a + 3, none⟩ (.int .u8 ((n : Int) / 16777216))) := by
    have s0 := hob.stored a (.int .u8 ((n : Int) % 256))
    have s1 := s0.1.stored (a + 1) (.int .u8 ((n : Int) / 256 % 256))
    have s2 := s1.1.stored (a + 2) (.int .u8 ((n : Int) / 65536 % 256))
    have s3 := s2.1.stored (a + 3) (.int .u8 ((n : Int) / 16777216))
    have hg := ((s0.2.trans s1.2).trans s2.2).trans s3.2
    have ho := s3.1
    rw [← patch_cells es.b a n (by omega)] at ho
    have hEb := own_blk_ne hob hE (by decide)
    have hME := own_map_ne hob hom
    simp only [Value.ownBlock] at hEb hME hne
    refine ⟨⟨_, vt, M, D, m, hE.grown hg (Ne.symm hEb), hbE, hbM, by rw [patch_length]; exact ho, hot.kept hg ?_, by simpa [Value.ownBlock] using hne, hom.kept hg (Ne.symm hME), hm, hD⟩, (Below.refl base w).grown hg (by have := hE.lt; omega) (fun k hk => by injection hk with hk; omega), fun x hx => ?_⟩
    · rcases hne with h | h
      · cases h
      · exact .inr (Ne.symm h)
    · obtain ⟨hlt, vb', vt', M', hE2, g1, g2, g3, g4⟩ := hx
      obtain ⟨rfl, rfl, rfl⟩ := blk_inj hE hE2
      exact ⟨⟨Nat.lt_of_lt_of_le hlt hg.size, _, _, _, hE.grown hg (Ne.symm hEb), g1, g2, g3, g4⟩, hg.block x hlt (Ne.symm g3)⟩
  have HS := Lib.hid hS
  have C := lePut_any g a (es.b.length - a) (cap - a) n _ _ _ _ w (by omega) (by omega) (hfr _) (hfr _) (hfr _) (hfr _) (hcell a (by omega)) (hcell (a + 1) (by omega)) (hcell (a + 2) (by omega)) (hcell (a + 3) (by omega))
  have HC := Lib.hid C
  clear C hcell hfr hS hob hot hom hE hne hm hD
  go_enter Tryz.func67, Tryz.ntmps67
  go_wp2_with fail
  refine (HC.out).mono ?_
  rintro e w1 ⟨rfl, rfl⟩
  go_wp2_with fail
  refine bodyPost_end (results_none rfl _ _ _) rfl ?_
  exact ⟨rfl, HS.out.1, HS.out.2⟩
end
section
open Go.RowKit

theorem Longer.refl {base : Nat} {w : World} {v : Value} {l : List UInt8} (h : w.ownsRow base 5 1 v l.length (Lib.byteCells l)) : Longer base w w v v l :=
  ⟨h, ⟨rfl, rfl, rfl, Nat.le_refl _, fun _ _ _ => rfl⟩, fun _ hk => .inl hk⟩

theorem Longer.trans {base : Nat} {a b c : World} {u v x : Value} {l m : List UInt8} (h : Longer base a b u v l) (k : Longer base b c v x m) : Longer base a c u x m := by
  refine ⟨k.1, h.2.1.andThen k.2.1 fun j hj => ?_, fun j hj => ?_⟩
  · rcases h.2.2 j hj with e | e
    · exact .inr e
    · exact .inl e
  · rcases k.2.2 j hj with e | e
    · exact h.2.2 j e
    · have := h.2.1.size
      exact .inr (by omega)

theorem Longer.ofAlloc {base : Nat} {a c : World} {o : Obj} {v x : Value} {m : List UInt8} (k : Longer base (a.alloc o) c v x m) : Longer base a c v x m := by
  refine ⟨k.1, ((World.grownBy_alloc a o none).but v.ownBlock).trans k.2.1, fun j hj => ?_⟩
  rcases k.2.2 j hj with e | e
  · exact .inl e
  · simp at e
    exact .inr (by omega)

set_option maxRecDepth 100000 in
theorem or128_small : ∀ k : Nat, k < 256 → bits .or .u8 (k : Int) 128 = (k : Int) % 128 + 128 := by decide +kernel
theorem or128 (y : Nat) : bits .or .u8 ((y : Int) % 256) 128 = (y : Int) % 128 + 128 := by
  have h := or128_small (y % 256) (Nat.mod_lt _ (by decide))
  have e : ((y % 256 : Nat) : Int) = (y : Int) % 256 := by omega
  rw [e] at h
  rw [h]
  omega

set_option maxHeartbeats 2000000 in
set_option maxRecDepth 100000 in
theorem appendUvarint_any (base n : Nat) (v : Value) (l : List UInt8) (w : World) (hn : n < 16384) (ho : w.ownsRow base 5 1 v l.length (Lib.byteCells l)) (hl : l.length ≤ 100000000) (hbs : base ≤ w.heap.size) :
    Calls Tryz.prog 87 #[v, .int .u64 (n : Int)] w fun e w' => ∃ v', e = .returned v' ∧ Longer base w w' v v' (l ++ Lib.uvarint n) := by
  obtain ⟨i0, hi0, hz0, hz1, hz2⟩ := info_parts' u8_info
  have hlen := Lib.uvarint_length 1 n (by omega)
  go_enter Tryz.func87, Tryz.ntmps87
  go_wp2_with fail
  go_loopw [0, 1] (fun b x wr => ∃ (y : Nat) (pre : List UInt8), x = .int .u64 y ∧ y ≤ n ∧ l ++ Lib.uvarint n = pre ++ Lib.uvarint y ∧ Longer base w wr v b pre) (fun _ x _ => (intOf x).toNat)
  case atStart => exact ⟨n, l, rfl, Nat.le_refl _, rfl, Longer.refl ho⟩
  case round =>
    obtain ⟨y, pre, rfl, hy, hsplit, hL⟩ := hrel
    have hpl : pre.length + (Lib.uvarint y).length ≤ l.length + 2 := by
      have h2 := congrArg List.length hsplit
      rw [List.length_append, List.length_append] at h2
      omega
    have hyp := Lib.uvarint_pos y
    have HSP := Lib.hid hsplit
    have hown1 := hL.1
    have hsz := hL.2.1.size
    have HL := Lib.hid hL
    clear hsplit hL
    by_cases h128 : 128 ≤ y
    · go_wp2_with (at_builtin; refine wpList_append_own_at _ rfl (.tmp 7) (.tmp 11) _ rfl base 5 i0 (.int .u8 0) 1 1 Tryz.underlying26 hi0 hz0 hz1 hz2 rfl (by decide) _ pre.length (Lib.byteCells pre) rfl (hown1.alloc _) ⟨wr.heap.size, 0, none⟩ 1 1 [Value.int .u8 (bits .or .u8 ((y : Int) % 256) 128)] rfl rfl (cell_one_new _ _ _) (one_cell _ rfl) (by unfold maxLen; omega) (by omega) (by simp; omega) ?_; intro v4 w4 hown4 hgrow4 _ hat4)
      have hL4 : Longer base (wr.alloc (.cells #[Value.int .u8 (bits .or .u8 ((y : Int) % 256) 128)] 5)) w4 u0 v4 (pre ++ [(y % 128 + 128).toUInt8]) := by
        have ec : ((y % 128 + 128 : Nat) : Int) = (y : Int) % 128 + 128 := by omega
        refine longer_of ?_ hgrow4 hat4
        rw [← bc_append, Lib.byteCells_snoc pre (by omega), ec, ← or128]
        exact hown4
      have HL4 := Lib.hid (HL.out.trans hL4.ofAlloc)
      clear hL4 hown4 hgrow4 hat4 hown1
      go_roundw
      case rel => exact ⟨y / 128, pre ++ [(y % 128 + 128).toUInt8], by go_num, by omega, by rw [HSP.out, Lib.uvarint_big h128]; simp, HL4.out⟩
      case measure => simp [intOf]; omega
    · go_wp2_with (at_builtin; refine wpList_append_own_at _ rfl (.tmp 15) (.tmp 18) _ rfl base 5 i0 (.int .u8 0) 1 1 Tryz.underlying26 hi0 hz0 hz1 hz2 rfl (by decide) _ pre.length (Lib.byteCells pre) rfl (hown1.alloc _) ⟨wr.heap.size, 0, none⟩ 1 1 [Value.int .u8 (y : Int)] rfl rfl (cell_one_new _ _ _) (one_cell _ rfl) (by unfold maxLen; omega) (by omega) (by simp; omega) ?_; intro v4 w4 hown4 hgrow4 _ hat4)
      have hL4 : Longer base (wr.alloc (.cells #[Value.int .u8 (y : Int)] 5)) w4 u0 v4 (l ++ Lib.uvarint n) := by
        rw [HSP.out, Lib.uvarint_small (by omega)]
        refine longer_of ?_ hgrow4 hat4
        rw [← bc_append, Lib.byteCells_snoc pre (by omega)]
        exact hown4
      have HL4 := Lib.hid (HL.out.trans hL4.ofAlloc)
      clear hL4 hown4 hgrow4 hat4 hown1
      go_ret
      exact ⟨_, rfl, HL4.out⟩
end
section
open Go.RowKit

theorem strCells_eq (s : ByteArray) : Lib.strCells s = Lib.byteCells s.data.toList := rfl

/-- A text's bytes appended to a row of bytes that is not nil: the row lies where it lay, or in a new block. -/
theorem run_append_text_at (w : World) (base g n cap : Nat) (ty : TypeId) (l : List UInt8) (s : ByteArray) (hl : l.length = n)
    (hown : w.ownsRow base 5 1 (.slice (some ⟨g, 0, none⟩) n cap) n (Lib.byteCells l)) (hb : n + s.size ≤ 200000000) (hbase : base ≤ w.heap.size) :
    ∃ v' w', (Builtin.append_ #[26, 9] ty #[.slice (some ⟨g, 0, none⟩) n cap, .string s]).run Tryz.prog w = .ok v' w' ∧ Longer base w w' (.slice (some ⟨g, 0, none⟩) n cap) v' (l ++ s.data.toList) := by
  subst hl
  obtain ⟨i0, hi0, hz0, hz1, hz2⟩ := info_parts' u8_info
  have hs2 : s.data.toList.length = s.size := by simp
  obtain ⟨v', w', hr, h1, h2, _⟩ := Lib.run_append_own_string (P := Tryz.prog) w base 26 9 ty 5 i0 Tryz.underlying26 Tryz.underlying9 hi0 hz0 hz1 hz2 _ _ _ hown s (by unfold maxLen; omega) (by omega) hbase
  refine ⟨v', w', hr, longer_of (by rw [hs2]; exact h1) h2 ?_⟩
  rcases hown.2 with ⟨h, _⟩ | ⟨g', cap', cur, hv, _, hg, hnc, hcm, hcs, _⟩
  · cases h
  · injection hv with hA _ hc
    injection hA with hA
    injection hA with hA _
    subst hA
    subst hc
    by_cases hroom : l.length + s.size ≤ cap
    · have hr2 := Lib.run_append_room_string (P := Tryz.prog) w 26 9 ty 5 i0 Tryz.underlying26 Tryz.underlying9 hi0 hz1 g l.length cap cur hg s hroom (by omega)
      rw [hr2] at hr
      injection hr with hr _
      subst hr
      exact .inl rfl
    · have hr2 := Lib.run_append_grow_string (P := Tryz.prog) w 26 9 ty 5 i0 (.int .u8 0) Tryz.underlying26 Tryz.underlying9 hi0 hz0 ⟨g, 0, none⟩ l.length cap (Lib.byteCells l) (by rw [hz1, bc_length]; omega) (hown.cells (g := g) rfl) s (by omega) (by omega) (by rw [hz2]; exact growslice_fits (by omega) (by omega))
      rw [hr2] at hr
      injection hr with hr _
      subst hr
      exact .inr rfl

/-- .. at the operation. -/
theorem wpList_append_text_at {ops : Array Oper} {rest : List Oper} {o : Oper} {a : Act} {Q : Exit → Act → World → Prop} {w : World} (hgd : o.guard = none) (sl x : Operand)
    (ho : o.op = .call { callee := .builtin .append, args := #[sl, x], argTypes := #[26, 9] })
    (base g n cap : Nat) (l : List UInt8) (s : ByteArray) (hl : l.length = n) (hs : a.eval sl = .slice (some ⟨g, 0, none⟩) n cap) (hx : a.eval x = .string s)
    (hown : w.ownsRow base 5 1 (.slice (some ⟨g, 0, none⟩) n cap) n (Lib.byteCells l)) (hb : n + s.size ≤ 200000000) (hbase : base ≤ w.heap.size)
    (h : ∀ v' w', Longer base w w' (.slice (some ⟨g, 0, none⟩) n cap) v' (l ++ s.data.toList) → wpList Tryz.prog ops Q rest (a.put o.dst v') w') : wpList Tryz.prog ops Q (o :: rest) a w := by
  refine wpList_plain hgd fun K hK => ?_
  obtain ⟨v', w', hr, h2⟩ := run_append_text_at w base g n cap o.type l s hl hown hb hbase
  unfold Oper.wp execOp
  simp only [ho, resolve, invoke, builtin, Sem.run_bind, Sem.run_pure, Result.andThen_ok, List.map_toArray, List.map_cons, List.map_nil, hs, hx, hr]
  exact hK _ _ (h v' w' h2)

/-- A text, written: its place, and the text itself where it is new. -/
def ES.str (es : ES) (s : ByteArray) : ES :=
  match look es.d s with
  | some n => { es with b := es.b ++ Lib.leBytes 4 n }
  | none => { b := es.b ++ Lib.leBytes 4 es.t.length, t := es.t ++ (Lib.uvarint s.size ++ s.data.toList), d := (s, es.t.length) :: es.d }

theorem wf64 (n : Nat) (h : n ≤ 9223372036854775807) : (Lit.int .i64 (n : Int)).wf = true := by
  have h1 : IntKind.i64.min = -9223372036854775808 := by decide
  have h2 : IntKind.i64.max = 9223372036854775807 := by decide
  simp only [Lit.wf, h1, h2, Bool.and_eq_true, decide_eq_true_eq]
  omega

/-- The second field, to be written: the table has grown. -/
theorem Enc.field1 {base E : Nat} {es : ES} {w : World} (h : Enc w base E es) : ∃ vt, w.cell? ⟨E, 1, none⟩ = some vt ∧ w.ownsRow base 5 1 vt es.t.length (Lib.byteCells es.t) ∧
    ∀ v' l w1, Longer base w w1 vt v' l → Enc (w1.setCell ⟨E, 1, none⟩ v') base E { es with t := l } ∧ Fr base E w (w1.setCell ⟨E, 1, none⟩ v') ∧ w1.cell? ⟨E, 1, none⟩ = some vt ∧ w1.frozen? ⟨E, 1, none⟩ = false := by
  obtain ⟨vb, vt, M, D, m, hE, hbE, hbM, hob, hot, hne, hom, hm, hD⟩ := h
  refine ⟨vt, hE.cell 1, hot, fun v1 l w1 hL => ?_⟩
  obtain ⟨h1, hg, hat⟩ := hL
  have hEb : vb.ownBlock ≠ some E := own_blk_ne hob hE (by decide)
  have hEt : vt.ownBlock ≠ some E := own_blk_ne hot hE (by decide)
  have hE1 : Blk w1 E 137 #[vb, vt, .map (some M)] := hE.grown hg hEt.symm
  have hE' : v1.ownBlock ≠ some E := own_blk_ne h1 hE1 (by decide)
  have hne1 : ∀ k, v1.ownBlock = some k → vb.ownBlock ≠ some k := by
    intro k hk ht
    rcases hat k hk with h | h
    · rcases hne with h' | h'
      · rw [h'] at ht; cases ht
      · exact h' (ht.trans h.symm)
    · have := (hob.lt k ht).2
      omega
  have hob1 : w1.ownsRow base 5 1 vb es.b.length (Lib.byteCells es.b) := hob.kept hg hne
  have hom1 := hom.kept hg (own_map_ne hot hom).symm
  have hME : M ≠ E := fun h => blk_map_ne hE hom h.symm
  have hS := grownBy_setCell w1 ⟨E, 1, none⟩ v1
  refine ⟨⟨vb, v1, M, D, m, ?_, hbE, hbM, hob1.kept hS (.inr hEb), h1.kept hS (.inr hE'), ?_, hom1.kept hS (by simpa using hME), hm, hD⟩, ⟨((Below.refl base w).grown hg (by have := hE.lt; omega) (fun k hk => (hot.lt k hk).1)).setCell hbE _, fun g hg2 => ?_⟩, hE1.cell 1, hE1.frozen 1⟩
  · exact hE1.set_ 1 v1
  · cases h : vb.ownBlock with
    | none => exact .inl rfl
    | some k => exact .inr fun h2 => hne1 k h2.symm h
  · obtain ⟨hlt, vb', vt', M', hE2, g1, g2, g3, g4⟩ := hg2
    obtain ⟨rfl, rfl, rfl⟩ := blk_inj hE hE2
    refine ⟨⟨?_, vb, v1, M, hE1.set_ 1 v1, g1, g2, g3, fun h => ?_⟩, (Below.heap_setCell w1 _ v1 g g1).trans (hg.block g hlt (Ne.symm g4))⟩
    · have := hg.size
      simp
      omega
    · rcases hat g h with h | h
      · exact g4 h
      · omega

theorem dict_put {w : World} {M m : Nat} {D : DataW Unit} {R} {d : List (ByteArray × Nat)} (hom : w.ownsMap Tryz.prog 9 R M m D) (h : DictIs D d) (s : ByteArray) (n : Nat) :
    DictIs (D.put (.string s.data.toList) (.lit (.int .i64 (n : Int)))) ((s, n) :: d) := by
  intro x
  by_cases hx : s = x
  · subst hx
    refine ⟨?_, fun k hk z => ?_⟩
    · rw [Maps.has_put_same hom.isMap (by trivial)]
      simp [look]
    · simp [look] at hk
      subst hk
      exact Maps.atKey_put_same hom.isMap (by trivial) _ _
  · have hne : (Lit.string x.data.toList) ≠ .string s.data.toList := by
      intro e
      injection e with e
      exact hx (by cases s; cases x; simp_all)
    refine ⟨?_, fun k hk z => ?_⟩
    · rw [Maps.has_put_other hne, (h x).1]
      simp [look, hx]
    · simp [look, hx] at hk
      rw [Maps.atKey_put_other hne]
      exact (h x).2 k hk z

theorem int_info : (Tryz.prog.info? 3).map (fun i => (i.zero, i.size, i.bytes)) = some (some (.int .i64 0), 1, 8) := by kernel_rfl

set_option maxHeartbeats 4000000 in
set_option maxRecDepth 100000 in
theorem string_any (base E : Nat) (s : ByteArray) (es : ES) (w : World) (hs : s.size ≤ 1000) (hl : es.b.length ≤ 100000000) (ht : es.t.length ≤ 100000000) (hgood : Good es) (h : Enc w base E es) :
    Calls Tryz.prog 66 #[.pointer (some ⟨E, 0, none⟩), .string s] w fun e w' => e = .returned (.tuple #[]) ∧ Enc w' base E (es.str s) ∧ Fr base E w w' := by
  obtain ⟨ii, hi0, hi1, hi2, hi3⟩ := info_parts' int_info
  have hz : (zeroValue 3).run Tryz.prog w = .ok (.int .i64 0) w := by simp [zeroValue, typeInfo, hi0, hi1]
  have hEnc := Lib.hid h
  obtain ⟨vb, vt, M, D, m, hE, hbE, hbM, hob, hot, hne, hom, hm, hD⟩ := h
  have hc2 : w.cell? ⟨E, 2, none⟩ = some (.map (some M)) := hE.cell 2
  have hkey : keyOf Tryz.prog 9 (.string s) = some (.string s.data.toList) := WideMaps.keyOf_string_mk Tryz.underlying9 (by unfold maxLen; omega)
  cases hlk : look es.d s with
  | some n =>
    have hstr : es.str s = { es with b := es.b ++ Lib.leBytes 4 n } := by simp [ES.str, hlk]
    have hn := hgood.1 s n hlk
    have hhas := (hD s).1
    rw [hlk] at hhas
    have hat := (hD s).2 n hlk
    have C := int_any base E n es w (by omega) hl hEnc.out
    rw [← hstr] at C
    have HC := Lib.hid C
    clear hstr hlk C hob hot hne hm hE
    go_enter Tryz.func66, Tryz.ntmps66
    go_wp2_with (at_lookup; refine wpList_lookup_own_ok_int w rfl _ _ 135 rfl 9 3 .i64 (Maps.string_keyed Tryz.underlying9) Tryz.underlying135 Tryz.underlying3 hz M m D rfl hom _ _ rfl hkey ?_; intro c hc _; rw [hhas])
    have hcn : c = (n : Int) := by
      have := hc.symm.trans (hat _)
      injection this with this
      injection this
    subst hcn
    refine (HC.out).mono ?_
    rintro e w1 ⟨rfl, hE1, hB1⟩
    go_wp2_with fail
    refine bodyPost_ret (results_none rfl _ _ _) rfl ?_
    exact ⟨rfl, hE1, hB1⟩
  | none =>
    have hstr : es.str s = { b := es.b ++ Lib.leBytes 4 es.t.length, t := es.t ++ (Lib.uvarint s.size ++ s.data.toList), d := (s, es.t.length) :: es.d } := by simp [ES.str, hlk]
    have hhas := (hD s).1
    rw [hlk] at hhas
    have hmax : m < maxLen := by
      have := hgood.2
      unfold maxLen
      omega
    have hc1 : w.cell? ⟨E, 1, none⟩ = some vt := hE.cell 1
    obtain ⟨At, ct, rfl⟩ := own_form' hot
    have hzi : Go.plainElem (H := Unit) Tryz.prog 3 (.int .i64 (es.t.length : Int)) = some (.lit (.int .i64 (es.t.length : Int)), []) := plainElem_int Tryz.underlying3 (wf64 _ (by omega))
    go_enter Tryz.func66, Tryz.ntmps66
    go_wp2_with (first | (at_lookup; refine wpList_lookup_own_ok_int w rfl _ _ 135 rfl 9 3 .i64 (Maps.string_keyed Tryz.underlying9) Tryz.underlying135 Tryz.underlying3 hz M m D rfl hom _ _ rfl hkey ?_; intro c hc _; rw [hhas]) | (at_mapUpdate; refine wpList_mapUpdate_own w rfl _ _ _ 135 rfl 9 3 (Maps.string_keyed Tryz.underlying9) Tryz.underlying135 (Go.plainElem Tryz.prog 3) M m D rfl hom hmax _ _ (.string s.data.toList) rfl rfl hkey (.lit (.int .i64 (es.t.length : Int))) [] hzi ?_; intro w1 hom1 hgrow1))
    have hbw1 : Fr base E w w1 := by
      refine ⟨(Below.refl base w).grown hgrow1 (by have := hE.lt; omega) (fun k hk => by injection hk with hk; omega), fun x hx => ?_⟩
      obtain ⟨hlt, vb', vt', M', hE2, g1, g2, g3, g4⟩ := hx
      obtain ⟨rfl, rfl, rfl⟩ := blk_inj hE hE2
      exact ⟨⟨Nat.lt_of_lt_of_le hlt hgrow1.size, _, _, _, hE.grown hgrow1 (fun e => blk_map_ne hE hom (by injection e)), g1, g2, g3, g4⟩, hgrow1.block x hlt (fun e => g2 (by injection e))⟩
    have hE1 : Enc w1 base E { es with d := (s, es.t.length) :: es.d } :=
      ⟨vb, .slice At es.t.length ct, M, _, m + 1, hE.grown hgrow1 (fun e => blk_map_ne hE hom (by injection e)), hbE, hbM, hob.kept hgrow1 (.inr (own_map_ne hob hom)), hot.kept hgrow1 (.inr (own_map_ne hot hom)), hne, hom1, by simp; omega, dict_put hom hD s _⟩
    have C := int_any base E es.t.length { es with d := (s, es.t.length) :: es.d } w1 (by omega) hl hE1
    clear hE1 hom1 hgrow1 hob hot hne hom hE hD hm hmax hhas hc2 hc1 hEnc
    refine C.mono ?_
    rintro e w2 ⟨rfl, hE2, hB2⟩
    clear C
    obtain ⟨vt2, hcell2, hown2, hput2⟩ := hE2.field1
    have hbw2 := hbw1.trans hB2
    have hlt2 : base ≤ w2.heap.size := by
      obtain ⟨_, _, _, _, _, hE, hbE, _⟩ := hE2
      have := hE.lt
      omega
    have C := appendUvarint_any base s.size vt2 es.t w2 (by omega) hown2 ht hlt2
    have HP2 := Lib.hid hput2
    clear hput2 hown2 hE2 hB2
    go_wp2_with fail
    refine C.mono ?_
    rintro e w3 ⟨v3, rfl, hL3⟩
    clear C
    obtain ⟨hE3, hB3, hc3, hf3⟩ := HP2.out v3 _ w3 hL3
    obtain ⟨g3, c3, rfl, _, _⟩ := hL3.1.form (by have := Lib.uvarint_pos s.size; rw [List.length_append]; omega)
    have hlen := Lib.uvarint_length 1 s.size (by omega)
    have hl3 : (es.t ++ Lib.uvarint s.size).length ≤ 100000002 := by rw [List.length_append]; omega
    generalize hX : es.t ++ Lib.uvarint s.size = X at *
    have HX := Lib.hid hX
    clear hX hL3 hlen
    have hc4 : (w3.setCell ⟨E, 1, none⟩ (.slice (some ⟨g3, 0, none⟩) X.length c3)).cell? ⟨E, 1, none⟩ = some (.slice (some ⟨g3, 0, none⟩) X.length c3) := by simp [go_sem, hc3]
    obtain ⟨vt4, hc4', hown4, hput4⟩ := hE3.field1
    rw [hc4] at hc4'
    injection hc4' with hc4'
    subst hc4'
    have hlt4 : base ≤ (w3.setCell ⟨E, 1, none⟩ (.slice (some ⟨g3, 0, none⟩) X.length c3)).heap.size := by
      obtain ⟨_, _, _, _, _, hE, hbE, _⟩ := hE3
      have := hE.lt
      omega
    have HP4 := Lib.hid hput4
    clear hput4 hE3 HP2
    have hlen5 : (X ++ s.data.toList).length = X.length + s.size := by simp
    go_wp2_with (at_builtin; refine wpList_append_text_at rfl (.tmp 49) (.tmp 50) rfl base g3 X.length c3 X s rfl rfl rfl hown4 (by omega) hlt4 ?_; intro v5 w5 hL5; obtain ⟨hE5, hB5, hc5, hf5⟩ := HP4.out v5 _ w5 hL5; obtain ⟨A5, c5, rfl⟩ := own_form' hL5.1; rw [hlen5] at hE5 hB5; have HE5 := Lib.hid hE5; have HB5 := Lib.hid hB5; clear hE5 hB5 hL5 hown4)
    refine bodyPost_end (results_none rfl _ _ _) rfl ?_
    refine ⟨rfl, ?_, (hbw2.trans hB3).trans HB5.out⟩
    rw [hstr, ← List.append_assoc, HX.out]
    exact HE5.out
end
section
open Go.RowKit

/-- A number, written. -/
def ES.int (es : ES) (n : Nat) : ES := { es with b := es.b ++ Lib.leBytes 4 n }

/-- An encoder, its bounds with it. -/
def EG (w : World) (base E : Nat) (es : ES) (kb kt : Nat) : Prop := Enc w base E es ∧ Good es ∧ es.b.length ≤ kb ∧ es.t.length ≤ kt

theorem le_len (n : Nat) : (Lib.leBytes 4 n).length = 4 := by simp [Lib.leBytes]

theorem Good.int {es : ES} (h : Good es) (n : Nat) : Good (es.int n) := h

theorem Good.str {es : ES} (h : Good es) (s : ByteArray) : Good (es.str s) := by
  unfold ES.str
  split
  · exact h
  · rename_i hl
    have hp := Lib.uvarint_pos s.size
    refine ⟨fun x n hx => ?_, ?_⟩
    · show n < (es.t ++ (Lib.uvarint s.size ++ s.data.toList)).length
      rw [List.length_append, List.length_append]
      simp only [look] at hx
      split at hx
      · injection hx with hx
        omega
      · have := h.1 x n hx
        omega
    · show ((s, es.t.length) :: es.d).length ≤ (es.t ++ (Lib.uvarint s.size ++ s.data.toList)).length
      have := h.2
      rw [List.length_append, List.length_append, List.length_cons]
      omega

theorem str_b (es : ES) (s : ByteArray) : (es.str s).b.length = es.b.length + 4 := by
  unfold ES.str
  split <;> simp [le_len]

theorem str_t (es : ES) (s : ByteArray) (hs : s.size ≤ 1000) : (es.str s).t.length ≤ es.t.length + 1002 := by
  unfold ES.str
  split
  · simp
  · have hlen := Lib.uvarint_length 1 s.size (by omega)
    have hs2 : s.data.toList.length = s.size := by simp
    simp only [List.length_append, hs2]
    omega

theorem strG (base E kb kt : Nat) (s : ByteArray) (es : ES) (w : World) (hs : s.size ≤ 1000) (hkb : kb ≤ 100000000) (hkt : kt ≤ 100000000) (h : EG w base E es kb kt) :
    Calls Tryz.prog 66 #[.pointer (some ⟨E, 0, none⟩), .string s] w fun e w' => e = .returned (.tuple #[]) ∧ EG w' base E (es.str s) (kb + 4) (kt + 1002) ∧ Fr base E w w' := by
  obtain ⟨h1, h2, h3, h4⟩ := h
  refine (string_any base E s es w hs (by omega) (by omega) h2 h1).mono ?_
  rintro e w' ⟨rfl, hE, hB⟩
  have := str_t es s hs
  have := str_b es s
  exact ⟨rfl, ⟨hE, h2.str s, by omega, by omega⟩, hB⟩

theorem intG (base E kb kt n : Nat) (es : ES) (w : World) (hn : n < 2147483648) (hkb : kb ≤ 100000000) (h : EG w base E es kb kt) :
    Calls Tryz.prog 65 #[.pointer (some ⟨E, 0, none⟩), .int .i64 (n : Int)] w fun e w' => e = .returned (.tuple #[]) ∧ EG w' base E (es.int n) (kb + 4) kt ∧ Fr base E w w' := by
  obtain ⟨h1, h2, h3, h4⟩ := h
  refine (int_any base E n es w hn (by omega) h1).mono ?_
  rintro e w' ⟨rfl, hE, hB⟩
  exact ⟨rfl, ⟨hE, h2, by show (es.b ++ Lib.leBytes 4 n).length ≤ _; rw [List.length_append, le_len]; omega, h4⟩, hB⟩

theorem boolG (base E kb kt : Nat) (b : Bool) (es : ES) (w : World) (hkb : kb ≤ 100000000) (h : EG w base E es kb kt) :
    Calls Tryz.prog 104 #[.pointer (some ⟨E, 0, none⟩), .bool b] w fun e w' => e = .returned (.tuple #[]) ∧ EG w' base E (es.int b.toNat) (kb + 4) kt ∧ Fr base E w w' := by
  obtain ⟨h1, h2, h3, h4⟩ := h
  refine (bool_any base E b es w (by omega) h1).mono ?_
  rintro e w' ⟨rfl, hE, hB⟩
  exact ⟨rfl, ⟨hE, h2, by show (es.b ++ Lib.leBytes 4 b.toNat).length ≤ _; rw [List.length_append, le_len]; omega, h4⟩, hB⟩

/-- A place, and a directive with its place, as data. -/
structure PosD where
  fn : ByteArray
  o : Int
  l : Int
  c : Int
structure DirD where
  text : ByteArray
  at_ : PosD

def PosD.ok (p : PosD) : Prop := p.fn.size ≤ 1000 ∧ 0 ≤ p.o ∧ p.o ≤ 2147483647 ∧ 0 ≤ p.l ∧ p.l ≤ 2147483647 ∧ 0 ≤ p.c ∧ p.c ≤ 2147483647

def ES.pos (es : ES) (p : PosD) : ES := (((es.str p.fn).int p.o.toNat).int p.l.toNat).int p.c.toNat

theorem EG.alloc {w : World} {base E kb kt : Nat} {es : ES} (h : EG w base E es kb kt) (o : Obj) : EG (w.alloc o) base E es kb kt := by
  obtain ⟨⟨vb, vt, M, D, m, hE, hbE, hbM, hob, hot, hne, hom, hm, hD⟩, h2⟩ := h
  exact ⟨⟨vb, vt, M, D, m, hE.alloc o, hbE, hbM, hob.alloc o, hot.alloc o, hne, hom.alloc o, hm, hD⟩, h2⟩

/-- A block just made is none of the encoder's. -/
theorem EG.new {w : World} {base E kb kt : Nat} {es : ES} (h : EG w base E es kb kt) (o : Obj) : Apart (w.alloc o) E w.heap.size := by
  obtain ⟨⟨vb, vt, M, D, m, hE, hbE, hbM, hob, hot, hne, hom, hm, hD⟩, h2⟩ := h
  refine ⟨by simp, vb, vt, M, hE.alloc o, ?_, ?_, fun e => ?_, fun e => ?_⟩
  · have := hE.lt
    omega
  · have := hom.lt
    omega
  · have := (hob.lt _ e).2
    omega
  · have := (hot.lt _ e).2
    omega

theorem EG.lt {w : World} {base E kb kt : Nat} {es : ES} (h : EG w base E es kb kt) : base ≤ E ∧ E < w.heap.size := by
  obtain ⟨⟨vb, vt, M, D, m, hE, hbE, hbM, _⟩, _⟩ := h
  exact ⟨hbE, hE.lt⟩

set_option maxHeartbeats 2000000 in
theorem posG (base E kb kt : Nat) (p : PosD) (es : ES) (w : World) (hp : p.ok) (hkb : kb ≤ 90000000) (hkt : kt ≤ 90000000) (h : EG w base E es kb kt) :
    Calls Tryz.prog 105 #[.pointer (some ⟨E, 0, none⟩), .agg #[.string p.fn, .int .i64 p.o, .int .i64 p.l, .int .i64 p.c]] w fun e w' => e = .returned (.tuple #[]) ∧ EG w' base E (es.pos p) (kb + 16) (kt + 1002) ∧ Fr base E w w' := by
  obtain ⟨fn, o, l, c⟩ := p
  obtain ⟨hf, ho0, ho, hl0, hl, hc0, hc⟩ := hp
  obtain ⟨o, rfl⟩ := Int.eq_ofNat_of_zero_le ho0
  obtain ⟨l, rfl⟩ := Int.eq_ofNat_of_zero_le hl0
  obtain ⟨c, rfl⟩ := Int.eq_ofNat_of_zero_le hc0
  simp only at hf ho hl hc
  have HB := h.lt
  have HR := Lib.hid (h.alloc (.cells #[.string fn, .int .i64 (o : Int), .int .i64 (l : Int), .int .i64 (c : Int)] 88))
  have hA0 : Apart (w.alloc (.cells #[.string fn, .int .i64 (o : Int), .int .i64 (l : Int), .int .i64 (c : Int)] 88)) E w.heap.size := h.new _
  have hb0 : Fr base E w (w.alloc (.cells #[.string fn, .int .i64 (o : Int), .int .i64 (l : Int), .int .i64 (c : Int)] 88)) := (Fr.refl base E w).alloc (by omega) _
  have hblk := Blk.new w 88 #[.string fn, .int .i64 (o : Int), .int .i64 (l : Int), .int .i64 (c : Int)]
  generalize hW0 : w.alloc (.cells #[.string fn, .int .i64 (o : Int), .int .i64 (l : Int), .int .i64 (c : Int)] 88) = w0 at *
  have C0 := strG base E kb kt fn es w0 hf (by omega) (by omega) HR.out
  have HW := Lib.hid hW0
  clear h hW0
  go_enter Tryz.func105, Tryz.ntmps105
  go_wp2_with fail
  rw [HW.out]
  refine C0.mono ?_
  rintro e w1 ⟨rfl, hE1, hF1⟩
  have hA1 := (hF1.2 _ hA0).1
  have hb1 : Blk w1 w.heap.size 88 #[.string fn, .int .i64 (o : Int), .int .i64 (l : Int), .int .i64 (c : Int)] := (hF1.2 _ hA0).2.trans hblk
  have hc1 : w1.cell? ⟨w.heap.size, 1, none⟩ = some (.int .i64 (o : Int)) := hb1.cell 1
  have C1 := intG base E _ _ o _ w1 (by omega) (by omega) hE1
  clear C0 hE1
  go_wp2_with fail
  refine C1.mono ?_
  rintro e w2 ⟨rfl, hE2, hF2⟩
  have hA2 := (hF2.2 _ hA1).1
  have hb2 : Blk w2 w.heap.size 88 #[.string fn, .int .i64 (o : Int), .int .i64 (l : Int), .int .i64 (c : Int)] := (hF2.2 _ hA1).2.trans hb1
  have hc2 : w2.cell? ⟨w.heap.size, 2, none⟩ = some (.int .i64 (l : Int)) := hb2.cell 2
  have C2 := intG base E _ _ l _ w2 (by omega) (by omega) hE2
  clear C1 hE2
  go_wp2_with fail
  refine C2.mono ?_
  rintro e w3 ⟨rfl, hE3, hF3⟩
  have hb3 : Blk w3 w.heap.size 88 #[.string fn, .int .i64 (o : Int), .int .i64 (l : Int), .int .i64 (c : Int)] := (hF3.2 _ hA2).2.trans hb2
  have hc3 : w3.cell? ⟨w.heap.size, 3, none⟩ = some (.int .i64 (c : Int)) := hb3.cell 3
  have C3 := intG base E _ _ c _ w3 (by omega) (by omega) hE3
  clear C2 hE3
  go_wp2_with fail
  refine C3.mono ?_
  rintro e w4 ⟨rfl, hE4, hF4⟩
  go_wp2_with fail
  refine bodyPost_end (results_none rfl _ _ _) rfl ?_
  exact ⟨rfl, hE4, (((hb0.trans hF1).trans hF2).trans hF3).trans hF4⟩
end
section
open Go.RowKit

def dirCells (d : DirD) : List Value := [.string d.text, .string d.at_.fn, .int .i64 d.at_.o, .int .i64 d.at_.l, .int .i64 d.at_.c]

/-- A file, and a package, as data. -/
structure FileD where
  err : ByteArray
  perr : ByteArray
  name : ByteArray
  syn : ByteArray
  pkg : ByteArray
  ign : Bool
  bin : Bool
  cgo : ByteArray
  con : ByteArray
  cons : List ByteArray
  imps : List DirD
  embs : List DirD
  dirs : List DirD
structure PkgD where
  err : ByteArray
  dir : ByteArray
  files : List FileD

def fileCells (f : FileD) (vc vi ve vd : Value) : List Value :=
  [.string f.err, .string f.perr, .string f.name, .string f.syn, .string f.pkg, .bool f.ign, .bool f.bin, .string f.cgo, .string f.con, vc, vi, ve, vd]

/-- A list of texts, of directives, as they lie ahead of block B. -/
def StrsAt (w : World) (B : Nat) (v : Value) (ss : List ByteArray) : Prop := ∃ A c, v = .slice A ss.length c ∧ Reads w B 1 A ss.length (ss.map Value.string)
def DirsAt (w : World) (B : Nat) (v : Value) (ds : List DirD) : Prop := ∃ A c, v = .slice A ds.length c ∧ Reads w B 5 A ds.length (ds.flatMap dirCells)
/-- The cells of a file. -/
def FileR (w : World) (B : Nat) (cs : List Value) (f : FileD) : Prop :=
  ∃ vc vi ve vd, cs = fileCells f vc vi ve vd ∧ StrsAt w B vc f.cons ∧ DirsAt w B vi f.imps ∧ DirsAt w B ve f.embs ∧ DirsAt w B vd f.dirs

theorem StrsAt.below {w w' : World} {B : Nat} {v : Value} {ss : List ByteArray} (h : StrsAt w B v ss) (hb : Below B w w') : StrsAt w' B v ss := by
  obtain ⟨A, c, h1, h2⟩ := h
  exact ⟨A, c, h1, h2.below hb⟩
theorem DirsAt.below {w w' : World} {B : Nat} {v : Value} {ss : List DirD} (h : DirsAt w B v ss) (hb : Below B w w') : DirsAt w' B v ss := by
  obtain ⟨A, c, h1, h2⟩ := h
  exact ⟨A, c, h1, h2.below hb⟩
theorem FileR.below {w w' : World} {B : Nat} {cs : List Value} {f : FileD} (h : FileR w B cs f) (hb : Below B w w') : FileR w' B cs f := by
  obtain ⟨vc, vi, ve, vd, h1, h2, h3, h4, h5⟩ := h
  exact ⟨vc, vi, ve, vd, h1, h2.below hb, h3.below hb, h4.below hb, h5.below hb⟩

def DirD.ok (d : DirD) : Prop := d.text.size ≤ 1000 ∧ d.at_.ok
structure FileD.Ok (f : FileD) : Prop where
  err : f.err.size ≤ 1000
  perr : f.perr.size ≤ 1000
  name : f.name.size ≤ 1000
  syn : f.syn.size ≤ 1000
  pkg : f.pkg.size ≤ 1000
  cgo : f.cgo.size ≤ 1000
  con : f.con.size ≤ 1000
  cons : ∀ s ∈ f.cons, s.size ≤ 1000
  consL : f.cons.length ≤ 10
  imps : ∀ d ∈ f.imps, d.ok
  impsL : f.imps.length ≤ 10
  embs : ∀ d ∈ f.embs, d.ok
  embsL : f.embs.length ≤ 10
  dirs : ∀ d ∈ f.dirs, d.ok
  dirsL : f.dirs.length ≤ 10

def ES.strs (es : ES) (ss : List ByteArray) : ES := ss.foldl ES.str es
def ES.dir (es : ES) (d : DirD) : ES := (es.str d.text).pos d.at_
def ES.dirs (es : ES) (ds : List DirD) : ES := ds.foldl ES.dir es
def ES.head (es : ES) (f : FileD) : ES := ((((((((es.str f.err).str f.perr).str f.syn).str f.name).str f.pkg).int f.ign.toNat).int f.bin.toNat).str f.cgo).str f.con
def ES.file (es : ES) (f : FileD) : ES :=
  (((((((((es.head f).int f.cons.length).strs f.cons).int f.imps.length).dirs f.imps).int f.embs.length).dirs f.embs).int f.dirs.length).dirs f.dirs)

theorem strs_snoc (es : ES) (ss : List ByteArray) (k : Nat) (hk : k < ss.length) : es.strs (ss.take (k + 1)) = (es.strs (ss.take k)).str ss[k] := by
  unfold ES.strs
  rw [List.take_add_one, List.getElem?_eq_getElem hk, List.foldl_append]
  rfl
theorem dirs_snoc (es : ES) (ds : List DirD) (k : Nat) (hk : k < ds.length) : es.dirs (ds.take (k + 1)) = (es.dirs (ds.take k)).dir ds[k] := by
  unfold ES.dirs
  rw [List.take_add_one, List.getElem?_eq_getElem hk, List.foldl_append]
  rfl

/-- Where a row that is read lies. -/
theorem Reads.lies {w : World} {B size n : Nat} {A : Option Addr} {xs : List Value} (h : Reads w B size A n xs) (hn : 0 < n * size) : ∃ g o, A = some ⟨g, o, none⟩ ∧ g < B ∧ ∀ j u, xs[j]? = some u → w.cell? ⟨g, o + j, none⟩ = some u := by
  obtain ⟨ad, h1, h2, h3⟩ := h.2 (Nat.pos_of_mul_pos_right hn)
  have hx : 0 < xs.length := by rw [h.1]; exact hn
  have h0 := h3 0 _ (List.getElem?_eq_getElem hx)
  have hs : ad.spot = none := by
    unfold World.cell? Addr.add at h0
    simp at h0
    split at h0
    · split at h0
      · cases h0
      · rename_i h4
        simpa using h4
    · cases h0
  obtain ⟨g, o, sp⟩ := ad
  simp at hs
  subst hs
  refine ⟨g, o, h1, h2, fun j u hj => ?_⟩
  have := h3 j u hj
  have hadd : (⟨g, o, none⟩ : Addr).add j = ⟨g, o + j, none⟩ := by unfold Addr.add; split <;> simp_all
  rw [hadd] at this
  exact this

/-- One text of a list. -/
theorem StrsAt.cell {w : World} {B : Nat} {A : Option Addr} {ss : List ByteArray} (h : Reads w B 1 A ss.length (ss.map Value.string)) (k : Nat) (hk : k < ss.length) : ∃ g o, A = some ⟨g, o, none⟩ ∧ g < B ∧ w.cell? ⟨g, o + k, none⟩ = some (.string ss[k]) := by
  obtain ⟨g, o, h1, h2, h3⟩ := h.lies (by omega)
  exact ⟨g, o, h1, h2, h3 k _ (by rw [List.getElem?_map, List.getElem?_eq_getElem hk]; rfl)⟩

theorem flatMap_get {α β : Type} (f : α → List β) (n : Nat) (h : ∀ x, (f x).length = n) : ∀ (l : List α) (k : Nat) (hk : k < l.length) (j : Nat), j < n → (l.flatMap f)[k * n + j]? = (f l[k])[j]?
  | [], k, hk, _, _ => absurd hk (by simp)
  | x :: r, 0, _, j, hj => by
    rw [List.flatMap_cons, Nat.zero_mul, Nat.zero_add, List.getElem?_append_left (by rw [h]; exact hj)]
    rfl
  | x :: r, k + 1, hk, j, hj => by
    have e : (k + 1) * n + j = (f x).length + (k * n + j) := by rw [h, Nat.add_mul]; omega
    rw [List.flatMap_cons, e, List.getElem?_append_right (by omega), Nat.add_sub_cancel_left]
    exact flatMap_get f n h r k (by simpa using hk) j hj

/-- One directive of a list. -/
theorem DirsAt.cells {w : World} {B : Nat} {A : Option Addr} {ds : List DirD} (h : Reads w B 5 A ds.length (ds.flatMap dirCells)) (k : Nat) (hk : k < ds.length) :
    ∃ g o, A = some ⟨g, o, none⟩ ∧ g < B ∧ w.cell? ⟨g, o + k * 5, none⟩ = some (.string ds[k].text) ∧ w.cell? ⟨g, o + k * 5 + 1, none⟩ = some (.string ds[k].at_.fn) ∧ w.cell? ⟨g, o + k * 5 + 2, none⟩ = some (.int .i64 ds[k].at_.o) ∧
      w.cell? ⟨g, o + k * 5 + 3, none⟩ = some (.int .i64 ds[k].at_.l) ∧ w.cell? ⟨g, o + k * 5 + 4, none⟩ = some (.int .i64 ds[k].at_.c) := by
  obtain ⟨g, o, h1, h2, h3⟩ := h.lies (by omega)
  have hg := fun j hj => flatMap_get dirCells 5 (fun _ => rfl) ds k hk j hj
  exact ⟨g, o, h1, h2, h3 _ _ (hg 0 (by omega)), h3 _ _ (hg 1 (by omega)), h3 _ _ (hg 2 (by omega)), h3 _ _ (hg 3 (by omega)), h3 _ _ (hg 4 (by omega))⟩
end
section
open Go.RowKit

theorem EG.mono {w : World} {base E kb kt kb' kt' : Nat} {es : ES} (h : EG w base E es kb kt) (h1 : kb ≤ kb') (h2 : kt ≤ kt') : EG w base E es kb' kt' :=
  ⟨h.1, h.2.1, by have := h.2.2.1; omega, by have := h.2.2.2; omega⟩

set_option maxHeartbeats 16000000 in
set_option maxRecDepth 100000 in
theorem fileG (base E kb kt B g : Nat) (f : FileD) (cs : List Value) (es : ES) (w : World) (hB : B ≤ base) (hg : g < B) (hf : f.Ok) (hb : Blk w g 86 cs.toArray) (hr : FileR w B cs f) (hkb : kb ≤ 50000000) (hkt : kt ≤ 50000000) (h : EG w base E es kb kt) :
    Calls Tryz.prog 89 #[.pointer (some ⟨E, 0, none⟩), .pointer (some ⟨g, 0, none⟩)] w fun e w' => e = .returned (.tuple #[]) ∧ EG w' base E (es.file f) (kb + 1000) (kt + 100000) ∧ Fr base E w w' := by
  obtain ⟨vc, vi, ve, vd, rfl, ⟨Ac, cc, rfl, hvc⟩, ⟨Ai, ci, rfl, hvi⟩, ⟨Ae, ce, rfl, hve⟩, ⟨Ad, cd, rfl, hvd⟩⟩ := hr
  have hB0 : g < base := by omega
  have HCL := hf.consL
  have HIL := hf.impsL
  have HEL := hf.embsL
  have HDL := hf.dirsL
  have cc : ∀ w' : World, Fr base E w w' → ∀ j, w'.cell? ⟨g, j, none⟩ = (fileCells f (.slice Ac f.cons.length cc) (.slice Ai f.imps.length ci) (.slice Ae f.embs.length ce) (.slice Ad f.dirs.length cd)).toArray[j]? := fun w' hF j => (hb.below hF.1 hB0).cell j
  have CC := Lib.hid cc
  have HVC := Lib.hid hvc
  have HVI := Lib.hid hvi
  have HVE := Lib.hid hve
  have HVD := Lib.hid hvd
  have HF := Lib.hid hf
  clear cc hb hvc hvi hve hvd hf
  have F0 := Fr.refl base E w
  have h0 := h
  clear h
  go_enter Tryz.func89, Tryz.ntmps89
  have c0 : w.cell? ⟨g, 0, none⟩ = some (.string f.err) := CC.out w F0 0
  have C0 := strG base E _ _ f.err _ w HF.out.err (by omega) (by omega) h0
  clear h0
  go_wp2_with fail
  refine C0.mono ?_
  rintro e w1 ⟨rfl, h1, G1⟩
  have F1 := F0.trans G1
  clear C0 c0 F0 G1
  have c1 : w1.cell? ⟨g, 1, none⟩ = some (.string f.perr) := CC.out w1 F1 1
  have C1 := strG base E _ _ f.perr _ w1 HF.out.perr (by omega) (by omega) h1
  clear h1
  go_wp2_with fail
  refine C1.mono ?_
  rintro e w2 ⟨rfl, h2, G2⟩
  have F2 := F1.trans G2
  clear C1 c1 F1 G2
  have c2 : w2.cell? ⟨g, 3, none⟩ = some (.string f.syn) := CC.out w2 F2 3
  have C2 := strG base E _ _ f.syn _ w2 HF.out.syn (by omega) (by omega) h2
  clear h2
  go_wp2_with fail
  refine C2.mono ?_
  rintro e w3 ⟨rfl, h3, G3⟩
  have F3 := F2.trans G3
  clear C2 c2 F2 G3
  have c3 : w3.cell? ⟨g, 2, none⟩ = some (.string f.name) := CC.out w3 F3 2
  have C3 := strG base E _ _ f.name _ w3 HF.out.name (by omega) (by omega) h3
  clear h3
  go_wp2_with fail
  refine C3.mono ?_
  rintro e w4 ⟨rfl, h4, G4⟩
  have F4 := F3.trans G4
  clear C3 c3 F3 G4
  have c4 : w4.cell? ⟨g, 4, none⟩ = some (.string f.pkg) := CC.out w4 F4 4
  have C4 := strG base E _ _ f.pkg _ w4 HF.out.pkg (by omega) (by omega) h4
  clear h4
  go_wp2_with fail
  refine C4.mono ?_
  rintro e w5 ⟨rfl, h5, G5⟩
  have F5 := F4.trans G5
  clear C4 c4 F4 G5
  have c5 : w5.cell? ⟨g, 5, none⟩ = some (.bool f.ign) := CC.out w5 F5 5
  have C5 := boolG base E _ _ f.ign _ w5 (by omega) h5
  clear h5
  go_wp2_with fail
  refine C5.mono ?_
  rintro e w6 ⟨rfl, h6, G6⟩
  have F6 := F5.trans G6
  clear C5 c5 F5 G6
  have c6 : w6.cell? ⟨g, 6, none⟩ = some (.bool f.bin) := CC.out w6 F6 6
  have C6 := boolG base E _ _ f.bin _ w6 (by omega) h6
  clear h6
  go_wp2_with fail
  refine C6.mono ?_
  rintro e w7 ⟨rfl, h7, G7⟩
  have F7 := F6.trans G7
  clear C6 c6 F6 G7
  have c7 : w7.cell? ⟨g, 7, none⟩ = some (.string f.cgo) := CC.out w7 F7 7
  have C7 := strG base E _ _ f.cgo _ w7 HF.out.cgo (by omega) (by omega) h7
  clear h7
  go_wp2_with fail
  refine C7.mono ?_
  rintro e w8 ⟨rfl, h8, G8⟩
  have F8 := F7.trans G8
  clear C7 c7 F7 G8
  have c8 : w8.cell? ⟨g, 8, none⟩ = some (.string f.con) := CC.out w8 F8 8
  have C8 := strG base E _ _ f.con _ w8 HF.out.con (by omega) (by omega) h8
  clear h8
  go_wp2_with fail
  refine C8.mono ?_
  rintro e w9 ⟨rfl, h9, G9⟩
  have F9 := F8.trans G9
  clear C8 c8 F8 G9
  have c9 : w9.cell? ⟨g, 9, none⟩ = some (.slice Ac f.cons.length cc) := CC.out w9 F9 9
  have C9 := intG base E _ _ f.cons.length _ w9 (by omega) (by omega) h9
  clear h9
  go_wp2_with fail
  refine C9.mono ?_
  rintro e w10 ⟨rfl, h10, G10⟩
  have F10 := F9.trans G10
  clear C9 c9 F9 G10
  have h10 : EG w10 base E ((es.head f).int f.cons.length) (kb + 40) (kt + 7014) := h10.mono (by omega) (by omega)
  generalize hES0 : (es.head f).int f.cons.length = es0 at h10
  have HES0 := Lib.hid hES0
  clear hES0
  have c10 : w10.cell? ⟨g, 9, none⟩ = some (.slice Ac f.cons.length cc) := CC.out w10 F10 9
  go_wp2_with fail
  go_loopw [5, 78] (fun _ i wr => ∃ k : Nat, k ≤ f.cons.length ∧ i = .int .i64 k ∧ EG wr base E (es0.strs (f.cons.take k)) (kb + 40 + k * 4) (kt + 7014 + k * 1002) ∧ Fr base E w wr) (fun _ i _ => f.cons.length - (intOf i).toNat)
  case atStart => exact ⟨0, Nat.zero_le _, rfl, h10.mono (by omega) (by omega), F10⟩
  case round =>
    obtain ⟨k, hk, rfl, hE, hF⟩ := hrel
    clear c10 h10 F10
    by_cases hlt : k < f.cons.length
    · obtain ⟨ag, ao, rfl, hab, hca⟩ := StrsAt.cell (HVC.out.below (hF.1.mono hB)) k hlt
      have C := strG base E _ _ f.cons[k] _ wr (HF.out.cons _ (List.getElem_mem hlt)) (by omega) (by omega) hE
      have hsn := Lib.hid (strs_snoc es0 f.cons k hlt)
      have HK := Lib.hid hF
      clear hE hF
      generalize f.cons[k] = s at C hca hsn
      go_wp2_with fail
      refine C.mono ?_
      rintro e wy ⟨rfl, hE2, G2⟩
      have F2 := HK.out.trans G2
      clear C
      go_wp2_with fail
      go_roundw
      case rel => exact ⟨k + 1, by omega, by go_num, by rw [hsn.out]; exact hE2.mono (by omega) (by omega), F2⟩
      case measure => simp [intOf]; omega
    · have hkl : k = f.cons.length := by omega
      subst hkl
      rw [List.take_length] at hE
      have h11 := hE.mono (kb' := kb + 80) (kt' := kt + 17034) (by omega) (by omega)
      have F11 := hF
      clear hE hF hk
      have hwr : wr = wr := rfl
      clear hwr
      have c11 : wr.cell? ⟨g, 10, none⟩ = some (.slice Ai f.imps.length ci) := CC.out wr F11 10
      have C11 := intG base E _ _ f.imps.length _ wr (by omega) (by omega) h11
      clear h11
      go_wp2_with fail
      refine C11.mono ?_
      rintro e w12 ⟨rfl, h12, G12⟩
      have F12 := F11.trans G12
      clear C11 c11 F11 G12
      have h12 : EG w12 base E ((es0.strs f.cons).int f.imps.length) (kb + 84) (kt + 17034) := h12.mono (by omega) (by omega)
      generalize hES1 : (es0.strs f.cons).int f.imps.length = es1 at h12
      have HES1 := Lib.hid hES1
      clear hES1
      have c12 : w12.cell? ⟨g, 10, none⟩ = some (.slice Ai f.imps.length ci) := CC.out w12 F12 10
      go_wp2_with fail
      go_loopw [7, 98] (fun _ i wr => ∃ k : Nat, k ≤ f.imps.length ∧ i = .int .i64 k ∧ EG wr base E (es1.dirs (f.imps.take k)) (kb + 84 + k * 20) (kt + 17034 + k * 2004) ∧ Fr base E w wr) (fun _ i _ => f.imps.length - (intOf i).toNat)
      case atStart => exact ⟨0, Nat.zero_le _, rfl, h12.mono (by omega) (by omega), F12⟩
      case round =>
        obtain ⟨k, hk, rfl, hE, hF⟩ := hrel
        clear c12 h12 F12
        by_cases hlt : k < f.imps.length
        · obtain ⟨ag, ao, rfl, hab, hc0, hc1, hc2, hc3, hc4⟩ := DirsAt.cells (HVI.out.below (hF.1.mono hB)) k hlt
          have hdk := HF.out.imps _ (List.getElem_mem hlt)
          have hsn := Lib.hid (dirs_snoc es1 f.imps k hlt)
          generalize f.imps[k] = d at hc0 hc1 hc2 hc3 hc4 hdk hsn
          obtain ⟨hd0, hd1⟩ := hdk
          have hA := hE.new (.cells (dirCells d).toArray 92)
          have hE1 := hE.alloc (.cells (dirCells d).toArray 92)
          have hbl := Blk.new wr 92 (dirCells d).toArray
          have hF1 := hF.alloc (Nat.le_trans hE.lt.1 (Nat.le_of_lt hE.lt.2)) (.cells (dirCells d).toArray 92)
          generalize hW : wr.alloc (.cells (dirCells d).toArray 92) = wa at hA hE1 hbl hF1
          have HW := Lib.hid hW
          have C := strG base E _ _ d.text _ wa hd0 (by omega) (by omega) hE1
          clear hW hE hF hE1
          go_wp2_with fail
          rw [show wr.alloc (.cells #[Value.string d.text, Value.string d.at_.fn, Value.int IntKind.i64 d.at_.o, Value.int IntKind.i64 d.at_.l, Value.int IntKind.i64 d.at_.c] 92) = wa from HW.out]
          refine C.mono ?_
          rintro e wb ⟨rfl, hE2, G2⟩
          clear C
          have hbl2 : Blk wb wr.heap.size 92 (dirCells d).toArray := (G2.2 _ hA).2.trans hbl
          have k1 : wb.cell? ⟨wr.heap.size, 1, none⟩ = some (.string d.at_.fn) := hbl2.cell 1
          have k2 : wb.cell? ⟨wr.heap.size, 2, none⟩ = some (.int .i64 d.at_.o) := hbl2.cell 2
          have k3 : wb.cell? ⟨wr.heap.size, 3, none⟩ = some (.int .i64 d.at_.l) := hbl2.cell 3
          have k4 : wb.cell? ⟨wr.heap.size, 4, none⟩ = some (.int .i64 d.at_.c) := hbl2.cell 4
          have C := posG base E _ _ d.at_ _ wb hd1 (by omega) (by omega) hE2
          have F2 := hF1.trans G2
          clear hbl hbl2 hF1 G2 hE2
          go_wp2_with fail
          refine C.mono ?_
          rintro e wc ⟨rfl, hE3, G3⟩
          have F3 := F2.trans G3
          clear C F2 G3
          go_wp2_with fail
          go_roundw
          case rel => exact ⟨k + 1, by omega, by go_num, by rw [hsn.out]; exact hE3.mono (by omega) (by omega), F3⟩
          case measure => simp [intOf]; omega
        · have hkl : k = f.imps.length := by omega
          subst hkl
          rw [List.take_length] at hE
          have h13 := hE.mono (kb' := kb + 284) (kt' := kt + 37074) (by omega) (by omega)
          have F13 := hF
          clear hE hF hk
          have hwr : wr = wr := rfl
          clear hwr
          have c13 : wr.cell? ⟨g, 11, none⟩ = some (.slice Ae f.embs.length ce) := CC.out wr F13 11
          have C13 := intG base E _ _ f.embs.length _ wr (by omega) (by omega) h13
          clear h13
          go_wp2_with fail
          refine C13.mono ?_
          rintro e w14 ⟨rfl, h14, G14⟩
          have F14 := F13.trans G14
          clear C13 c13 F13 G14
          have h14 : EG w14 base E ((es1.dirs f.imps).int f.embs.length) (kb + 288) (kt + 37074) := h14.mono (by omega) (by omega)
          generalize hES2 : (es1.dirs f.imps).int f.embs.length = es2 at h14
          have HES2 := Lib.hid hES2
          clear hES2
          have c14 : w14.cell? ⟨g, 11, none⟩ = some (.slice Ae f.embs.length ce) := CC.out w14 F14 11
          go_wp2_with fail
          go_loopw [9, 123] (fun _ i wr => ∃ k : Nat, k ≤ f.embs.length ∧ i = .int .i64 k ∧ EG wr base E (es2.dirs (f.embs.take k)) (kb + 288 + k * 20) (kt + 37074 + k * 2004) ∧ Fr base E w wr) (fun _ i _ => f.embs.length - (intOf i).toNat)
          case atStart => exact ⟨0, Nat.zero_le _, rfl, h14.mono (by omega) (by omega), F14⟩
          case round =>
            obtain ⟨k, hk, rfl, hE, hF⟩ := hrel
            clear c14 h14 F14
            by_cases hlt : k < f.embs.length
            · obtain ⟨ag, ao, rfl, hab, hc0, hc1, hc2, hc3, hc4⟩ := DirsAt.cells (HVE.out.below (hF.1.mono hB)) k hlt
              have hdk := HF.out.embs _ (List.getElem_mem hlt)
              have hsn := Lib.hid (dirs_snoc es2 f.embs k hlt)
              generalize f.embs[k] = d at hc0 hc1 hc2 hc3 hc4 hdk hsn
              obtain ⟨hd0, hd1⟩ := hdk
              have hA := hE.new (.cells (dirCells d).toArray 94)
              have hE1 := hE.alloc (.cells (dirCells d).toArray 94)
              have hbl := Blk.new wr 94 (dirCells d).toArray
              have hF1 := hF.alloc (Nat.le_trans hE.lt.1 (Nat.le_of_lt hE.lt.2)) (.cells (dirCells d).toArray 94)
              generalize hW : wr.alloc (.cells (dirCells d).toArray 94) = wa at hA hE1 hbl hF1
              have HW := Lib.hid hW
              have C := strG base E _ _ d.text _ wa hd0 (by omega) (by omega) hE1
              clear hW hE hF hE1
              go_wp2_with fail
              rw [show wr.alloc (.cells #[Value.string d.text, Value.string d.at_.fn, Value.int IntKind.i64 d.at_.o, Value.int IntKind.i64 d.at_.l, Value.int IntKind.i64 d.at_.c] 94) = wa from HW.out]
              refine C.mono ?_
              rintro e wb ⟨rfl, hE2, G2⟩
              clear C
              have hbl2 : Blk wb wr.heap.size 94 (dirCells d).toArray := (G2.2 _ hA).2.trans hbl
              have k1 : wb.cell? ⟨wr.heap.size, 1, none⟩ = some (.string d.at_.fn) := hbl2.cell 1
              have k2 : wb.cell? ⟨wr.heap.size, 2, none⟩ = some (.int .i64 d.at_.o) := hbl2.cell 2
              have k3 : wb.cell? ⟨wr.heap.size, 3, none⟩ = some (.int .i64 d.at_.l) := hbl2.cell 3
              have k4 : wb.cell? ⟨wr.heap.size, 4, none⟩ = some (.int .i64 d.at_.c) := hbl2.cell 4
              have C := posG base E _ _ d.at_ _ wb hd1 (by omega) (by omega) hE2
              have F2 := hF1.trans G2
              clear hbl hbl2 hF1 G2 hE2
              go_wp2_with fail
              refine C.mono ?_
              rintro e wc ⟨rfl, hE3, G3⟩
              have F3 := F2.trans G3
              clear C F2 G3
              go_wp2_with fail
              go_roundw
              case rel => exact ⟨k + 1, by omega, by go_num, by rw [hsn.out]; exact hE3.mono (by omega) (by omega), F3⟩
              case measure => simp [intOf]; omega
            · have hkl : k = f.embs.length := by omega
              subst hkl
              rw [List.take_length] at hE
              have h15 := hE.mono (kb' := kb + 488) (kt' := kt + 57114) (by omega) (by omega)
              have F15 := hF
              clear hE hF hk
              have hwr : wr = wr := rfl
              clear hwr
              have c15 : wr.cell? ⟨g, 12, none⟩ = some (.slice Ad f.dirs.length cd) := CC.out wr F15 12
              have C15 := intG base E _ _ f.dirs.length _ wr (by omega) (by omega) h15
              clear h15
              go_wp2_with fail
              refine C15.mono ?_
              rintro e w16 ⟨rfl, h16, G16⟩
              have F16 := F15.trans G16
              clear C15 c15 F15 G16
              have h16 : EG w16 base E ((es2.dirs f.embs).int f.dirs.length) (kb + 492) (kt + 57114) := h16.mono (by omega) (by omega)
              generalize hES3 : (es2.dirs f.embs).int f.dirs.length = es3 at h16
              have HES3 := Lib.hid hES3
              clear hES3
              have c16 : w16.cell? ⟨g, 12, none⟩ = some (.slice Ad f.dirs.length cd) := CC.out w16 F16 12
              go_wp2_with fail
              go_loopw [11, 148] (fun _ i wr => ∃ k : Nat, k ≤ f.dirs.length ∧ i = .int .i64 k ∧ EG wr base E (es3.dirs (f.dirs.take k)) (kb + 492 + k * 20) (kt + 57114 + k * 2004) ∧ Fr base E w wr) (fun _ i _ => f.dirs.length - (intOf i).toNat)
              case atStart => exact ⟨0, Nat.zero_le _, rfl, h16.mono (by omega) (by omega), F16⟩
              case round =>
                obtain ⟨k, hk, rfl, hE, hF⟩ := hrel
                clear c16 h16 F16
                by_cases hlt : k < f.dirs.length
                · obtain ⟨ag, ao, rfl, hab, hc0, hc1, hc2, hc3, hc4⟩ := DirsAt.cells (HVD.out.below (hF.1.mono hB)) k hlt
                  have hdk := HF.out.dirs _ (List.getElem_mem hlt)
                  have hsn := Lib.hid (dirs_snoc es3 f.dirs k hlt)
                  generalize f.dirs[k] = d at hc0 hc1 hc2 hc3 hc4 hdk hsn
                  obtain ⟨hd0, hd1⟩ := hdk
                  have hA := hE.new (.cells (dirCells d).toArray 90)
                  have hE1 := hE.alloc (.cells (dirCells d).toArray 90)
                  have hbl := Blk.new wr 90 (dirCells d).toArray
                  have hF1 := hF.alloc (Nat.le_trans hE.lt.1 (Nat.le_of_lt hE.lt.2)) (.cells (dirCells d).toArray 90)
                  generalize hW : wr.alloc (.cells (dirCells d).toArray 90) = wa at hA hE1 hbl hF1
                  have HW := Lib.hid hW
                  have C := strG base E _ _ d.text _ wa hd0 (by omega) (by omega) hE1
                  clear hW hE hF hE1
                  go_wp2_with fail
                  rw [show wr.alloc (.cells #[Value.string d.text, Value.string d.at_.fn, Value.int IntKind.i64 d.at_.o, Value.int IntKind.i64 d.at_.l, Value.int IntKind.i64 d.at_.c] 90) = wa from HW.out]
                  refine C.mono ?_
                  rintro e wb ⟨rfl, hE2, G2⟩
                  clear C
                  have hbl2 : Blk wb wr.heap.size 90 (dirCells d).toArray := (G2.2 _ hA).2.trans hbl
                  have k1 : wb.cell? ⟨wr.heap.size, 1, none⟩ = some (.string d.at_.fn) := hbl2.cell 1
                  have k2 : wb.cell? ⟨wr.heap.size, 2, none⟩ = some (.int .i64 d.at_.o) := hbl2.cell 2
                  have k3 : wb.cell? ⟨wr.heap.size, 3, none⟩ = some (.int .i64 d.at_.l) := hbl2.cell 3
                  have k4 : wb.cell? ⟨wr.heap.size, 4, none⟩ = some (.int .i64 d.at_.c) := hbl2.cell 4
                  have C := posG base E _ _ d.at_ _ wb hd1 (by omega) (by omega) hE2
                  have F2 := hF1.trans G2
                  clear hbl hbl2 hF1 G2 hE2
                  go_wp2_with fail
                  refine C.mono ?_
                  rintro e wc ⟨rfl, hE3, G3⟩
                  have F3 := F2.trans G3
                  clear C F2 G3
                  go_wp2_with fail
                  go_roundw
                  case rel => exact ⟨k + 1, by omega, by go_num, by rw [hsn.out]; exact hE3.mono (by omega) (by omega), F3⟩
                  case measure => simp [intOf]; omega
                · have hkl : k = f.dirs.length := by omega
                  subst hkl
                  rw [List.take_length] at hE
                  have h17 := hE.mono (kb' := kb + 692) (kt' := kt + 77154) (by omega) (by omega)
                  have F17 := hF
                  clear hE hF hk
                  have hwr : wr = wr := rfl
                  clear hwr
                  go_wp2_with fail
                  refine bodyPost_end (results_none rfl _ _ _) rfl ?_
                  refine ⟨rfl, ?_, F17⟩
                  have he : es.file f = es3.dirs f.dirs := by
                    unfold ES.file
                    rw [HES0.out, HES1.out, HES2.out, HES3.out]
                  rw [he]
                  exact h17.mono (by omega) (by omega)
end
section
open Go.RowKit

theorem strs_b (es : ES) (ss : List ByteArray) : (es.strs ss).b.length = es.b.length + 4 * ss.length := by
  induction ss generalizing es with
  | nil => rfl
  | cons s r ih =>
    show ((es.str s).strs r).b.length = _
    rw [ih, str_b, List.length_cons]
    omega
theorem int_b (es : ES) (n : Nat) : (es.int n).b.length = es.b.length + 4 := by
  show (es.b ++ Lib.leBytes 4 n).length = _
  rw [List.length_append, le_len]
theorem pos_b (es : ES) (p : PosD) : (es.pos p).b.length = es.b.length + 16 := by
  unfold ES.pos
  rw [int_b, int_b, int_b, str_b]
theorem dirs_b (es : ES) (ds : List DirD) : (es.dirs ds).b.length = es.b.length + 20 * ds.length := by
  induction ds generalizing es with
  | nil => rfl
  | cons d r ih =>
    show ((es.dir d).dirs r).b.length = _
    rw [ih, ES.dir, pos_b, str_b, List.length_cons]
    omega
theorem file_b (es : ES) (f : FileD) : (es.file f).b.length = es.b.length + (52 + 4 * f.cons.length + 20 * f.imps.length + 20 * f.embs.length + 20 * f.dirs.length) := by
  simp only [ES.file, ES.head, dirs_b, int_b, strs_b, str_b]
  omega

def ES.zeros (es : ES) : Nat → ES
  | 0 => es
  | n + 1 => (es.zeros n).int 0
theorem zeros_b (es : ES) (n : Nat) : (es.zeros n).b.length = es.b.length + 4 * n := by
  induction n with
  | zero => rfl
  | succ n ih =>
    show ((es.zeros n).int 0).b.length = _
    rw [int_b, ih]
    omega
def ES.patch (es : ES) (a n : Nat) : ES := { es with b := Go.Proofs.YtanfimeajalffaaGreatDoor.patch es.b a n }

/-- The files of a package behind the places that are kept for where they begin. -/
def ES.filesTo (es : ES) (pos : Nat) (fs : List FileD) : Nat → ES
  | 0 => es
  | k + 1 => match fs[k]? with
    | some f => ((es.filesTo pos fs k).patch (pos + 4 * k) (es.filesTo pos fs k).b.length).file f
    | none => es.filesTo pos fs k
theorem filesTo_succ (es : ES) (pos : Nat) (fs : List FileD) (k : Nat) (hk : k < fs.length) : es.filesTo pos fs (k + 1) = ((es.filesTo pos fs k).patch (pos + 4 * k) (es.filesTo pos fs k).b.length).file fs[k] := by
  show (match fs[k]? with | some f => _ | none => _) = _
  rw [List.getElem?_eq_getElem hk]

def ES.pre (es : ES) (p : PkgD) : ES := ((es.str p.err).str p.dir).int p.files.length
def ES.pkg (es : ES) (p : PkgD) : ES := ((es.pre p).zeros p.files.length).filesTo (es.pre p).b.length p.files p.files.length

theorem patchG (base E kb kt n a : Nat) (es : ES) (w : World) (hn : n < 2147483648) (ha : a + 4 ≤ es.b.length) (hkb : kb ≤ 100000000) (h : EG w base E es kb kt) :
    Calls Tryz.prog 67 #[.pointer (some ⟨E, 0, none⟩), .int .i64 (n : Int), .int .i64 (a : Int)] w fun e w' => e = .returned (.tuple #[]) ∧ EG w' base E (es.patch a n) kb kt ∧ Fr base E w w' := by
  obtain ⟨h1, h2, h3, h4⟩ := h
  refine (encIntAt_any base E n a es w hn ha (by omega) h1).mono ?_
  rintro e w' ⟨rfl, hE, hB⟩
  exact ⟨rfl, ⟨hE, h2, by show (Go.Proofs.YtanfimeajalffaaGreatDoor.patch es.b a n).length ≤ _; rw [patch_length]; exact h3, h4⟩, hB⟩

/-- A file, and a package, as the encoder's input has them: behind pointers. -/
def RawFileAt (w : World) (B : Nat) (u : Value) (f : FileD) : Prop := ∃ g cs, u = .pointer (some ⟨g, 0, none⟩) ∧ g < B ∧ Blk w g 86 cs.toArray ∧ FileR w B cs f
def RawFilesAt (w : World) (B : Nat) (v : Value) (fs : List FileD) : Prop := ∃ A c us, v = .slice A fs.length c ∧ Reads w B 1 A fs.length us ∧ ∀ (i : Nat) (u : Value) (f : FileD), us[i]? = some u → fs[i]? = some f → RawFileAt w B u f
def RawPkgAt (w : World) (B : Nat) (u : Value) (p : PkgD) : Prop := ∃ g vf, u = .pointer (some ⟨g, 0, none⟩) ∧ g < B ∧ Blk w g 81 #[.string p.err, .string p.dir, vf] ∧ RawFilesAt w B vf p.files

theorem RawFileAt.below {w w' : World} {B : Nat} {u : Value} {f : FileD} (h : RawFileAt w B u f) (hb : Below B w w') : RawFileAt w' B u f := by
  obtain ⟨g, cs, h1, h2, h3, h4⟩ := h
  exact ⟨g, cs, h1, h2, h3.below hb h2, h4.below hb⟩
theorem RawFilesAt.below {w w' : World} {B : Nat} {v : Value} {fs : List FileD} (h : RawFilesAt w B v fs) (hb : Below B w w') : RawFilesAt w' B v fs := by
  obtain ⟨A, c, us, h1, h2, h3⟩ := h
  exact ⟨A, c, us, h1, h2.below hb, fun i u f hu hf => (h3 i u f hu hf).below hb⟩
theorem RawPkgAt.below {w w' : World} {B : Nat} {u : Value} {f : PkgD} (h : RawPkgAt w B u f) (hb : Below B w w') : RawPkgAt w' B u f := by
  obtain ⟨g, cs, h1, h2, h3, h4⟩ := h
  exact ⟨g, cs, h1, h2, h3.below hb h2, h4.below hb⟩

structure PkgD.Ok (p : PkgD) : Prop where
  err : p.err.size ≤ 1000
  dir : p.dir.size ≤ 1000
  filesL : p.files.length ≤ 10
  files : ∀ f ∈ p.files, f.Ok

set_option maxHeartbeats 8000000 in
set_option maxRecDepth 100000 in
theorem pkgG (base E kb kt B : Nat) (p : PkgD) (u : Value) (es : ES) (w : World) (hB : B ≤ base) (hp : p.Ok) (hr : RawPkgAt w B u p) (hkb : kb ≤ 10000000) (hkt : kt ≤ 40000000) (h : EG w base E es kb kt) :
    Calls Tryz.prog 68 #[.pointer (some ⟨E, 0, none⟩), u] w fun e w' => e = .returned (.tuple #[]) ∧ EG w' base E (es.pkg p) (kb + 20000) (kt + 1100000) ∧ Fr base E w w' := by
  obtain ⟨g, vf, rfl, hg, hb, A, c, us, rfl, hrd, hus⟩ := hr
  have hB0 : g < base := by omega
  have HFL := hp.filesL
  have cc : ∀ w' : World, Fr base E w w' → ∀ j, w'.cell? ⟨g, j, none⟩ = (#[.string p.err, .string p.dir, .slice A p.files.length c] : Array Value)[j]? := fun w' hF j => (hb.below hF.1 hB0).cell j
  have CC := Lib.hid cc
  have HRD := Lib.hid hrd
  have HUS := Lib.hid hus
  have HP := Lib.hid hp
  clear cc hb hrd hus hp
  have c0 : w.cell? ⟨g, 0, none⟩ = some (.string p.err) := CC.out w (Fr.refl base E w) 0
  have C0 := strG base E kb kt p.err es w HP.out.err (by omega) (by omega) h
  clear h
  go_enter Tryz.func68, Tryz.ntmps68
  go_wp2_with fail
  refine C0.mono ?_
  rintro e w1 ⟨rfl, h1, F1⟩
  have c1 : w1.cell? ⟨g, 1, none⟩ = some (.string p.dir) := CC.out w1 F1 1
  have C1 := strG base E _ _ p.dir _ w1 HP.out.dir (by omega) (by omega) h1
  clear C0 h1 c0
  go_wp2_with fail
  refine C1.mono ?_
  rintro e w2 ⟨rfl, h2, G2⟩
  have F2 := F1.trans G2
  have c2 : w2.cell? ⟨g, 2, none⟩ = some (.slice A p.files.length c) := CC.out w2 F2 2
  have C2 := intG base E _ _ p.files.length _ w2 (by omega) (by omega) h2
  clear C1 h2 c1 F1 G2
  go_wp2_with fail
  refine C2.mono ?_
  rintro e w3 ⟨rfl, h3, G3⟩
  have F3 := F2.trans G3
  have c3 : w3.cell? ⟨g, 2, none⟩ = some (.slice A p.files.length c) := CC.out w3 F3 2
  have h3' : EG w3 base E (es.pre p) (kb + 12) (kt + 2004) := h3.mono (by omega) (by omega)
  have C3 := pos_any base E (es.pre p) w3 h3'.1
  clear C2 h3 c2 F2 G3
  generalize hpre : es.pre p = e0 at h3' C3
  have HPRE := Lib.hid hpre
  clear hpre
  go_wp2_with fail
  refine C3.mono ?_
  rintro e w4 ⟨rfl, rfl⟩
  clear C3
  go_wp2_with fail
  go_loopw [33] (fun i wr => ∃ k : Nat, k ≤ p.files.length ∧ i = .int .i64 k ∧ EG wr base E (e0.zeros k) (kb + 12 + 4 * k) (kt + 2004) ∧ Fr base E w wr) (fun i _ => p.files.length - (intOf i).toNat)
  case atStart => exact ⟨0, Nat.zero_le _, rfl, h3'.mono (by omega) (by omega), F3⟩
  case round =>
    obtain ⟨k, hk, rfl, hE, hF⟩ := hrel
    by_cases hlt : k < p.files.length
    · have C := intG base E _ _ 0 _ wr (by omega) (by omega) hE
      go_wp2_with fail
      refine C.mono ?_
      rintro e wy ⟨rfl, hE2, G2⟩
      have FF2 := hF.trans G2
      clear C
      go_wp2_with fail
      go_roundw
      case rel => exact ⟨k + 1, by omega, by go_num, hE2.mono (by omega) (by omega), FF2⟩
      case measure => simp [intOf]; omega
    · have hkl : k = p.files.length := by omega
      subst hkl
      clear c3 h3' F3
      have cr : wr.cell? ⟨g, 2, none⟩ = some (.slice A p.files.length c) := CC.out wr hF 2
      have hzb := zeros_b e0 p.files.length
      have HPK : Hid (es.pkg p = (e0.zeros p.files.length).filesTo e0.b.length p.files p.files.length) := Lib.hid (by unfold ES.pkg; rw [HPRE.out])
      generalize e0.zeros p.files.length = ez at hE hzb HPK
      go_wp2_with fail
      go_loopw [5, 6, 43] (fun _ _ i wx => ∃ k : Nat, k ≤ p.files.length ∧ i = .int .i64 k ∧ EG wx base E (ez.filesTo e0.b.length p.files k) (kb + 52 + 1000 * k) (kt + 2004 + 100000 * k) ∧ Fr base E w wx ∧ ez.b.length ≤ (ez.filesTo e0.b.length p.files k).b.length) (fun _ _ i _ => p.files.length - (intOf i).toNat)
      case atStart => exact ⟨0, Nat.zero_le _, rfl, hE.mono (by omega) (by omega), hF, Nat.le_refl _⟩
      case round =>
        obtain ⟨k, hk2, rfl, hEx, hFx, hlb⟩ := hrel
        clear cr hE hF
        by_cases hlt2 : k < p.files.length
        · have hfs := Lib.hid (filesTo_succ ez e0.b.length p.files k hlt2)
          obtain ⟨g1, o1, rfl, hgb, hcell⟩ := (HRD.out.below (hFx.1.mono hB)).lies (by omega)
          have hul : k < us.length := by rw [HRD.out.1]; omega
          have hu := hcell k _ (List.getElem?_eq_getElem hul)
          have hfk := (HUS.out k _ _ (List.getElem?_eq_getElem hul) (List.getElem?_eq_getElem hlt2)).below (hFx.1.mono hB)
          have hok := HP.out.files _ (List.getElem_mem hlt2)
          have hbl := hEx.2.2.1
          clear hcell
          generalize us[k] = u at hu hfk
          generalize p.files[k] = f at hfs hfk hok
          obtain ⟨gf, cs, rfl, hgf, hbf, hrf⟩ := hfk
          have hfb := file_b ((ez.filesTo e0.b.length p.files k).patch (e0.b.length + 4 * k) (ez.filesTo e0.b.length p.files k).b.length) f
          have hpb : ((ez.filesTo e0.b.length p.files k).patch (e0.b.length + 4 * k) (ez.filesTo e0.b.length p.files k).b.length).b.length = (ez.filesTo e0.b.length p.files k).b.length := patch_length _ _ _
          have C := pos_any base E _ wr hEx.1
          have C2 := patchG base E _ _ (ez.filesTo e0.b.length p.files k).b.length (e0.b.length + 4 * k) _ wr (by omega) (by omega) (by omega) hEx
          generalize ez.filesTo e0.b.length p.files k = ek at hEx C C2 hfs hlb hbl hfb hpb
          have hbf1 := fun wz (h : Fr base E wr wz) => hbf.below h.1 (Nat.lt_of_lt_of_le hgf hB)
          have hrf1 := fun wz (h : Fr base E wr wz) => hrf.below (h.1.mono hB)
          have HBF := Lib.hid hbf1
          have HRF := Lib.hid hrf1
          clear hbf1 hrf1 hbf hrf
          generalize hL0 : e0.b.length = l0 at *
          generalize hLk : ek.b.length = lk at *
          have HL0 := Lib.hid hL0
          have HLk := Lib.hid hLk
          clear hL0 hLk hEx
          go_wp2_with fail
          refine C.mono ?_
          rintro e wy ⟨rfl, rfl⟩
          clear C
          go_wp2_with fail
          refine C2.mono ?_
          rintro e wy ⟨rfl, hE2, G2⟩
          clear C2
          have C3 := fileG base E _ _ B gf f cs _ wy hB hgf hok (HBF.out wy G2) (HRF.out wy G2) (by omega) (by omega) hE2
          have F5 := hFx.trans G2
          clear hE2 G2 hFx
          go_wp2_with fail
          refine C3.mono ?_
          rintro e wz ⟨rfl, hE3, G3⟩
          have F6 := F5.trans G3
          clear C3 F5 G3
          go_wp2_with fail
          go_roundw
          case rel => exact ⟨k + 1, by omega, by go_num, by rw [hfs.out]; exact hE3.mono (by omega) (by omega), F6, by rw [hfs.out]; omega⟩
          case measure => simp [intOf]; omega
        · have hkl : k = p.files.length := by omega
          subst hkl
          go_wp2_with fail
          refine bodyPost_end (results_none rfl _ _ _) rfl ?_
          exact ⟨rfl, by rw [HPK.out]; exact hEx.mono (by omega) (by omega), hFx⟩
end
section
open Go.RowKit

def es0 : ES := { b := [], t := [0], d := [(ByteArray.empty, 0)] }

set_option maxHeartbeats 4000000 in
set_option maxRecDepth 100000 in
theorem newEncoder_any (w : World) :
    Calls Tryz.prog 58 #[] w fun e w' => ∃ E, e = .returned (.pointer (some ⟨E, 0, none⟩)) ∧ EG w' w.heap.size E es0 0 1 ∧ Below w.heap.size w w' := by
  obtain ⟨i0, hi0, hz0, hz1, hz2⟩ := info_parts' u8_info
  have hmm := @run_makeMap Tryz.prog
  have hA : EG ((w.alloc (.map #[] 0)).alloc (.cells #[.slice none 0 0, .slice none 0 0, .map (some w.heap.size)] 137)) w.heap.size (w.heap.size + 1) { b := [], t := [], d := [] } 0 0 := by
    have hblk := Blk.new (w.alloc (.map #[] 0)) 137 #[.slice none 0 0, .slice none 0 0, .map (some w.heap.size)]
    simp only [World.size_alloc] at hblk
    refine ⟨⟨.slice none 0 0, .slice none 0 0, w.heap.size, .map [], 0, hblk, by omega, Nat.le_refl _, World.ownsRow_nil _ _ _ _, World.ownsRow_nil _ _ _ _, .inl rfl, (World.ownsMap_made w _ _ _).alloc _, Nat.le_refl _, fun s => ⟨rfl, fun n hn => by cases hn⟩⟩, ⟨fun s n hn => (by cases hn), Nat.le_refl _⟩, Nat.le_refl _, Nat.le_refl _⟩
  have hA2 := hA.alloc (.cells #[.int .u8 0] 5)
  have hbw0 : Below w.heap.size w ((w.alloc (.map #[] 0)).alloc (.cells #[.slice none 0 0, .slice none 0 0, .map (some w.heap.size)] 137)) := ((Below.refl _ _).alloc (Nat.le_refl _) _).alloc (by simp) _
  have hbw1 := hbw0.alloc (by simp; omega) (.cells #[.int .u8 0] 5)
  obtain ⟨vt, hcv, hown1, hput1⟩ := hA2.1.field1
  have hnew : ∀ j u, ([Value.int .u8 0] : List Value)[j]? = some u → (((w.alloc (.map #[] 0)).alloc (.cells #[.slice none 0 0, .slice none 0 0, .map (some w.heap.size)] 137)).alloc (.cells #[.int .u8 0] 5)).cell? ((⟨w.heap.size + 2, 0, none⟩ : Addr).add j) = some u := by
    have := cell_one_new ((w.alloc (.map #[] 0)).alloc (.cells #[.slice none 0 0, .slice none 0 0, .map (some w.heap.size)] 137)) (.int .u8 0) 5
    simpa using this
  have hvt : vt = .slice none 0 0 := by
    have hblk := (Blk.new (w.alloc (.map #[] 0)) 137 #[.slice none 0 0, .slice none 0 0, .map (some w.heap.size)]).alloc (.cells #[.int .u8 0] 5)
    simp only [World.size_alloc] at hblk
    have := hblk.cell 1
    rw [hcv] at this
    injection this
  subst hvt
  have hsz3 : w.heap.size ≤ (((w.alloc (.map #[] 0)).alloc (.cells #[.slice none 0 0, .slice none 0 0, .map (some w.heap.size)] 137)).alloc (.cells #[.int .u8 0] 5)).heap.size := by simp; omega
  have HP := Lib.hid hput1
  have HB := Lib.hid hbw1
  clear hA hA2 hput1 hcv hbw0 hbw1
  go_enter Tryz.func58, Tryz.ntmps58
  go_wp2_with (first | (at_builtin; refine wpList_append_own_at _ rfl (.tmp 9) (.tmp 10) _ rfl w.heap.size 5 i0 (.int .u8 0) 1 1 Tryz.underlying26 hi0 hz0 hz1 hz2 rfl (by decide) (.slice none 0 0) 0 (Lib.byteCells []) rfl hown1 ⟨w.heap.size + 2, 0, none⟩ 1 1 [Value.int .u8 0] rfl rfl hnew (one_cell _ rfl) (by unfold maxLen; omega) (by omega) hsz3 ?_; intro v4 w4 hown4 hgrow4 _ hat4; obtain ⟨hE5, hF5, hc5, hf5⟩ := HP.out v4 [0] w4 (longer_of (l := []) (x := [0]) hown4 hgrow4 hat4); obtain ⟨A5, c5, rfl⟩ := own_form' hown4; obtain ⟨vb6, vt6, M6, D6, m6, hE6, hbE6, hbM6, hob6, hot6, hne6, hom6, hm6, hD6⟩ := hE5; have hc26 := hE6.cell 2; have hbw6 := HB.out.trans hF5.1; clear hF5 hown4 hgrow4 hat4) | (at_mapUpdate; refine wpList_mapUpdate_own _ rfl _ _ _ 135 rfl 9 3 (Maps.string_keyed Tryz.underlying9) Tryz.underlying135 (Go.plainElem Tryz.prog 3) M6 m6 D6 rfl hom6 (Nat.lt_of_le_of_lt hm6 (by simp [maxLen])) _ _ (.string (ByteArray.empty).data.toList) rfl rfl (WideMaps.keyOf_string_mk Tryz.underlying9 (show (0 : Nat) ≤ maxLen from Nat.zero_le _)) (.lit (.int .i64 ((0 : Nat) : Int))) [] (plainElem_int Tryz.underlying3 (wf64 0 (by omega))) ?_; intro w7 hom7 hgrow7))
  have hE7 : EG w7 w.heap.size (w.heap.size + 1) es0 0 1 := by
    refine ⟨⟨vb6, vt6, M6, _, m6 + 1, hE6.grown hgrow7 (fun e => blk_map_ne hE6 hom6 (by injection e)), hbE6, hbM6, hob6.kept hgrow7 (.inr (own_map_ne hob6 hom6)), hot6.kept hgrow7 (.inr (own_map_ne hot6 hom6)), hne6, hom7, Nat.succ_le_succ hm6, dict_put hom6 hD6 ByteArray.empty 0⟩, ⟨fun s n hn => ?_, Nat.le_refl _⟩, Nat.le_refl _, Nat.le_refl _⟩
    simp only [es0, look] at hn
    split at hn
    · injection hn with hn
      subst hn
      decide
    · cases hn
  have hbw7 := hbw6.grown hgrow7 hbw6.size (fun k hk => by injection hk with hk; omega)
  have HE := Lib.hid hE7
  have HB7 := Lib.hid hbw7
  clear hE7 hbw7 hom7 hgrow7 hE6 hob6 hot6 hom6 hD6 hbw6
  go_ret
  exact ⟨w.heap.size + 1, rfl, HE.out, HB7.out⟩
end
end Go.Proofs.YtanfimeajalffaaGreatDoor
