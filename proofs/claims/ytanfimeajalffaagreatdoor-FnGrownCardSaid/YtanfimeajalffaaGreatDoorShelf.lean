/-
  DERIVED: THE SHELF's CONTRACTS AT THIS DUMP, IN PLAIN WORDS (tools/lay-plain.mjs out of 'TryzShelf.lean', which tools/lay-shelf.mjs wrote): THE SAME DECLARATIONS UNDER THE SAME NAMES: 'import', 'namespace', 'open', 'def', 'theorem' AND NOTHING ELSE: no command of the shelf's: FOR A HAND-IN. Each laying: the table of numbers ('.._ren') and one theorem, a field a fact of the dump's own or the kernel's comparison; each contract: ONE APPLICATION.
-/
import Derived.Shelf.Small.Bits
import Derived.Shelf.Small.Strs
import Derived.Shelf.Strconv.Itoa0
import Derived.Ground.MnProg
import Derived.Shelf.Bin.AppendUvarint
import Derived.Shelf.Bin.Uvarint
import Derived.Shelf.Bin.UvarintEmpty
import Derived.Shelf.Bin.AppendUvarintArg
import Derived.Shelf.Bytes.SlSmallAll
import Derived.Shelf.Bytes.Small
import Derived.Test.YtanfimeajalffaaGreatDoorProg
namespace Go.Proofs
open Go.Shelf
def Tryz.lays128_ren : Go.Shelf.Ren := ⟨fun | 128 => 101 | n => n, fun | 51 => 127 | 3 => 3 | 4 => 4 | 46 => 143 | 5 => 5 | 9 => 9 | n => n, fun | n => n⟩
theorem Tryz.lays128 : Go.Proofs.Lays.n128 Tryz.prog Tryz.lays128_ren := {
  mixed := by kernel_rfl
  f128 := Tryz.func101.trans (congrArg some (by kernel_rfl))
  t3 := Tryz.underlying3
  a3 := Tryz.isAgg3
  z3 := Tryz.sizeOf3
  v3 := Tryz.zeroValue3
  t4 := Tryz.underlying4
  a4 := Tryz.isAgg4
  z4 := Tryz.sizeOf4
  v4 := Tryz.zeroValue4
  t5 := Tryz.underlying5
  a5 := Tryz.isAgg5
  z5 := Tryz.sizeOf5
  v5 := Tryz.zeroValue5
  t9 := Tryz.underlying9
  a9 := Tryz.isAgg9
  z9 := Tryz.sizeOf9
  v9 := Tryz.zeroValue9
  t46 := Tryz.underlying143
  a46 := Tryz.isAgg143
  z46 := Tryz.sizeOf143
  v46 := Tryz.zeroValue143
  t51 := Tryz.underlying127
  a51 := Tryz.isAgg127
  z51 := Tryz.sizeOf127
  v51 := Tryz.zeroValue127 }
/-- bits.Len32: "Len32 returns the minimum number of bits required to represent x; the result is 0 for x == 0.": IT RETURNS 'Lib.bitLen x'; the world is as it was. ('h0', 'h1': x is a uint32.) (LAID: no walk: one application.) -/
theorem Tryz.bits_Len32 (x : Int) (w : World) (h0 : 0 ≤ x) (h1 : x ≤ 4294967295) :
    Calls Tryz.prog 101 #[.int .u32 x] w fun e w' => e = .returned (.int .i64 (Lib.bitLen x.toNat)) ∧ w' = w := Any.bits_Len32 Tryz.lays128 x w h0 h1
def Tryz.lays125_ren : Go.Shelf.Ren := ⟨fun | 125 => 85 | 128 => 101 | 129 => 102 | n => n, fun | 46 => 143 | 3 => 3 | 51 => 127 | 53 => 154 | 4 => 4 | 5 => 5 | 9 => 9 | n => n, fun | n => n⟩
theorem Tryz.lays125 : Go.Proofs.Lays.n125 Tryz.prog Tryz.lays125_ren := {
  mixed := by kernel_rfl
  f125 := Tryz.func85.trans (congrArg some (by kernel_rfl))
  f128 := Tryz.func101.trans (congrArg some (by kernel_rfl))
  f129 := Tryz.func102.trans (congrArg some (by kernel_rfl))
  t3 := Tryz.underlying3
  a3 := Tryz.isAgg3
  z3 := Tryz.sizeOf3
  v3 := Tryz.zeroValue3
  t4 := Tryz.underlying4
  a4 := Tryz.isAgg4
  z4 := Tryz.sizeOf4
  v4 := Tryz.zeroValue4
  t5 := Tryz.underlying5
  a5 := Tryz.isAgg5
  z5 := Tryz.sizeOf5
  v5 := Tryz.zeroValue5
  t9 := Tryz.underlying9
  a9 := Tryz.isAgg9
  z9 := Tryz.sizeOf9
  v9 := Tryz.zeroValue9
  t46 := Tryz.underlying143
  a46 := Tryz.isAgg143
  z46 := Tryz.sizeOf143
  v46 := Tryz.zeroValue143
  t51 := Tryz.underlying127
  a51 := Tryz.isAgg127
  z51 := Tryz.sizeOf127
  v51 := Tryz.zeroValue127
  t53 := Tryz.underlying154
  a53 := Tryz.isAgg154
  z53 := Tryz.sizeOf154
  v53 := Tryz.zeroValue154 }
/-- bits.Len: "Len returns the minimum number of bits required to represent x; the result is 0 for x == 0.": IT RETURNS 'Lib.bitLen x'; the world is as it was. (A uint has 64 bits in the model.) ITS CALLEE bits.Len64 IS MET BY ITS OWN CONTRACT OFF THE SHELF (lay that first). (LAID: no walk: one application.) -/
theorem Tryz.bits_Len (x : Int) (w : World) (h0 : 0 ≤ x) (h1 : x ≤ 18446744073709551615) :
    Calls Tryz.prog 85 #[.int .u64 x] w fun e w' => e = .returned (.int .i64 (Lib.bitLen x.toNat)) ∧ w' = w := Any.bits_Len Tryz.lays125 x w h0 h1
def Tryz.lays213_ren : Go.Shelf.Ren := ⟨fun | 213 => 86 | 265 => 103 | n => n, fun | 9 => 9 | 3 => 3 | n => n, fun | n => n⟩
theorem Tryz.lays213 : Go.Proofs.Lays.n213 Tryz.prog Tryz.lays213_ren := {
  mixed := by kernel_rfl
  f213 := Tryz.func86.trans (congrArg some (by kernel_rfl))
  f265 := Tryz.func103.trans (congrArg some (by kernel_rfl))
  t3 := Tryz.underlying3
  a3 := Tryz.isAgg3
  z3 := Tryz.sizeOf3
  v3 := Tryz.zeroValue3
  t9 := Tryz.underlying9
  a9 := Tryz.isAgg9
  z9 := Tryz.sizeOf9
  v9 := Tryz.zeroValue9 }
open Go.RowKit in
/-- internal/bytealg.CompareString (what strings.Compare calls): IT RETURNS 'Lib.compareBytes a b'; the world is as it was. (LAID: no walk: one application.) -/
theorem Tryz.bytealg_CompareString (a b : ByteArray) (w : World) :
    Calls Tryz.prog 86 #[.string a, .string b] w fun e w' => e = .returned (.int .i64 (Lib.compareBytes a.data.toList b.data.toList)) ∧ w' = w := Any.bytealg_CompareString Tryz.lays213 a b w
def Tryz.lays106_ren : Go.Shelf.Ren := ⟨fun | 106 => 64 | 213 => 86 | 265 => 103 | n => n, fun | 9 => 9 | 3 => 3 | n => n, fun | n => n⟩
theorem Tryz.lays106 : Go.Proofs.Lays.n106 Tryz.prog Tryz.lays106_ren := {
  mixed := by kernel_rfl
  f106 := Tryz.func64.trans (congrArg some (by kernel_rfl))
  f213 := Tryz.func86.trans (congrArg some (by kernel_rfl))
  f265 := Tryz.func103.trans (congrArg some (by kernel_rfl))
  t3 := Tryz.underlying3
  a3 := Tryz.isAgg3
  z3 := Tryz.sizeOf3
  v3 := Tryz.zeroValue3
  t9 := Tryz.underlying9
  a9 := Tryz.isAgg9
  z9 := Tryz.sizeOf9
  v9 := Tryz.zeroValue9 }
open Go.RowKit in
/-- strings.Compare: "Compare returns an integer comparing two strings lexicographically. The result will be 0 if a == b, -1 if a < b, and +1 if a > b.": IT RETURNS 'Lib.compareBytes a b'; the world is as it was. (LAID: no walk: one application.) -/
theorem Tryz.strings_Compare (a b : ByteArray) (w : World) :
    Calls Tryz.prog 64 #[.string a, .string b] w fun e w' => e = .returned (.int .i64 (Lib.compareBytes a.data.toList b.data.toList)) ∧ w' = w := Any.strings_Compare Tryz.lays106 a b w
def Tryz.lays129_ren : Go.Shelf.Ren := ⟨fun | 129 => 102 | n => n, fun | 53 => 154 | 3 => 3 | 4 => 4 | 46 => 143 | 5 => 5 | 9 => 9 | n => n, fun | n => n⟩
theorem Tryz.lays129 : Go.Proofs.Lays.n129 Tryz.prog Tryz.lays129_ren := {
  mixed := by kernel_rfl
  f129 := Tryz.func102.trans (congrArg some (by kernel_rfl))
  t3 := Tryz.underlying3
  a3 := Tryz.isAgg3
  z3 := Tryz.sizeOf3
  v3 := Tryz.zeroValue3
  t4 := Tryz.underlying4
  a4 := Tryz.isAgg4
  z4 := Tryz.sizeOf4
  v4 := Tryz.zeroValue4
  t5 := Tryz.underlying5
  a5 := Tryz.isAgg5
  z5 := Tryz.sizeOf5
  v5 := Tryz.zeroValue5
  t9 := Tryz.underlying9
  a9 := Tryz.isAgg9
  z9 := Tryz.sizeOf9
  v9 := Tryz.zeroValue9
  t46 := Tryz.underlying143
  a46 := Tryz.isAgg143
  z46 := Tryz.sizeOf143
  v46 := Tryz.zeroValue143
  t53 := Tryz.underlying154
  a53 := Tryz.isAgg154
  z53 := Tryz.sizeOf154
  v53 := Tryz.zeroValue154 }
/-- bits.Len64: "Len64 returns the minimum number of bits required to represent x; the result is 0 for x == 0.": IT RETURNS 'Lib.bitLen x'; the world is as it was. ('h0', 'h1': x is a uint64.) (LAID: no walk: one application.) -/
theorem Tryz.bits_Len64 (x : Int) (w : World) (h0 : 0 ≤ x) (h1 : x ≤ 18446744073709551615) :
    Calls Tryz.prog 102 #[.int .u64 x] w fun e w' => e = .returned (.int .i64 (Lib.bitLen x.toNat)) ∧ w' = w := Any.bits_Len64 Tryz.lays129 x w h0 h1
def Tryz.laysBin47_ren : Go.Shelf.Ren := ⟨fun | 47 => 87 | n => n, fun | 22 => 26 | 33 => 154 | 4 => 4 | 5 => 5 | 45 => 143 | n => n, fun | n => n⟩
theorem Tryz.laysBin47 : Go.Proofs.LaysBin.n47 Tryz.prog Tryz.laysBin47_ren := {
  mixed := by kernel_rfl
  f47 := Tryz.func87.trans (congrArg some (by kernel_rfl))
  t4 := Tryz.underlying4
  a4 := Tryz.isAgg4
  z4 := Tryz.sizeOf4
  v4 := Tryz.zeroValue4
  i4 := by kernel_rfl
  t5 := Tryz.underlying5
  a5 := Tryz.isAgg5
  z5 := Tryz.sizeOf5
  v5 := Tryz.zeroValue5
  i5 := by kernel_rfl
  t22 := Tryz.underlying26
  a22 := Tryz.isAgg26
  z22 := Tryz.sizeOf26
  v22 := Tryz.zeroValue26
  i22 := by kernel_rfl
  t33 := Tryz.underlying154
  a33 := Tryz.isAgg154
  z33 := Tryz.sizeOf154
  v33 := Tryz.zeroValue154
  i33 := by kernel_rfl
  t45 := Tryz.underlying143
  a45 := Tryz.isAgg143
  z45 := Tryz.sizeOf143
  v45 := Tryz.zeroValue143
  i45 := by kernel_rfl }
open Go.RowKit in
/-- binary.AppendUvarint: "AppendUvarint appends the varint-encoded form of x, as generated by PutUvarint, to buf and returns the extended buffer.": WHAT COMES BACK OWNS buf's CELLS AND, BEHIND THEM, x's VARINT ('Lib.uvarint x': seven bits a byte, the least first; at most ten bytes). Below the call's own blocks nothing has turned. (LAID: no walk: one application.) -/
theorem Tryz.binary_AppendUvarint (B n x : Nat) (hx : x < 18446744073709551616) (sv : Value) (xs : List Value) (w : World) (hown : w.ownsRow B 5 1 sv n xs) (hBw : B ≤ w.heap.size) (hlim : n + 10 ≤ 140737488355328) :
    Calls Tryz.prog 87 #[sv, .int .u64 x] w fun e w' => ∃ v', e = .returned v' ∧ w'.ownsRow B 5 1 v' (n + (Lib.uvarint x).length) (xs ++ Lib.byteCells (Lib.uvarint x)) ∧ Below B w w' := Any.binary_AppendUvarint Tryz.laysBin47 B n x hx sv xs w hown hBw hlim
def Tryz.laysBin45_ren : Go.Shelf.Ren := ⟨fun | 45 => 91 | n => n, fun | 22 => 26 | 33 => 154 | 3 => 3 | 45 => 143 | 0 => 0 | 5 => 5 | 4 => 4 | n => n, fun | n => n⟩
theorem Tryz.laysBin45 : Go.Proofs.LaysBin.n45 Tryz.prog Tryz.laysBin45_ren := {
  mixed := by kernel_rfl
  f45 := Tryz.func91.trans (congrArg some (by kernel_rfl))
  t0 := Tryz.underlying0
  a0 := Tryz.isAgg0
  z0 := Tryz.sizeOf0
  v0 := Tryz.zeroValue0
  i0 := by kernel_rfl
  t3 := Tryz.underlying3
  a3 := Tryz.isAgg3
  z3 := Tryz.sizeOf3
  v3 := Tryz.zeroValue3
  i3 := by kernel_rfl
  t4 := Tryz.underlying4
  a4 := Tryz.isAgg4
  z4 := Tryz.sizeOf4
  v4 := Tryz.zeroValue4
  i4 := by kernel_rfl
  t5 := Tryz.underlying5
  a5 := Tryz.isAgg5
  z5 := Tryz.sizeOf5
  v5 := Tryz.zeroValue5
  i5 := by kernel_rfl
  t22 := Tryz.underlying26
  a22 := Tryz.isAgg26
  z22 := Tryz.sizeOf26
  v22 := Tryz.zeroValue26
  i22 := by kernel_rfl
  t33 := Tryz.underlying154
  a33 := Tryz.isAgg154
  z33 := Tryz.sizeOf154
  v33 := Tryz.zeroValue154
  i33 := by kernel_rfl
  t45 := Tryz.underlying143
  a45 := Tryz.isAgg143
  z45 := Tryz.sizeOf143
  v45 := Tryz.zeroValue143
  i45 := by kernel_rfl }
open Go.RowKit in
/-- binary.Uvarint: "Uvarint decodes a uint64 from buf and returns that value and the number of bytes read (> 0). If an error occurred, the value is 0 and the number of bytes n is <= 0 meaning: n == 0: buf too small; n < 0: value larger than 64 bits (overflow) and -n is the number of bytes read.": 'Lib.uvarintDec' OF buf's BYTES, both results. The world is as it was. (LAID: no walk: one application.) -/
theorem Tryz.binary_Uvarint (g o n c : Nat) (l : List UInt8) (w : World) (hl : l.length = n) (hcell : ∀ j (hj : j < l.length), w.cell? ⟨g, o + j, none⟩ = some (.int .u8 (l[j]).toNat)) :
    Calls Tryz.prog 91 #[.slice (some ⟨g, o, none⟩) n c] w fun e w' => e = .returned (.tuple #[.int .u64 (Lib.uvarintDec l).1, .int .i64 (Lib.uvarintDec l).2]) ∧ w' = w := Any.binary_Uvarint Tryz.laysBin45 g o n c l w hl hcell
open Go.RowKit in
/-- binary.Uvarint AT A SLICE WITHOUT ELEMENTS, nil too: (0, 0): "buf too small": 'Lib.uvarintDec []'. The world is as it was. (LAID: no walk: one application.) -/
theorem Tryz.binary_Uvarint_empty (ao : Option Addr) (c : Nat) (w : World) :
    Calls Tryz.prog 91 #[.slice ao 0 c] w fun e w' => e = .returned (.tuple #[.int .u64 (Lib.uvarintDec []).1, .int .i64 (Lib.uvarintDec []).2]) ∧ w' = w := Any.binary_Uvarint_empty Tryz.laysBin45 ao c w
open Go.RowKit in
/-- binary.AppendUvarint, buf A SLICE THAT CAME IN ('Came W0 ..'), onto which m bytes ('ks') have been appended so far: BEHIND THE CALL: x's VARINT BESIDES ('Lib.uvarint x': at most ten bytes). (LAID: no walk: one application.) -/
theorem Tryz.binary_AppendUvarint_arg (W0 : World) (ao : Option Addr) (b off len cap : Nat) (olds : List Value) (hc : Came W0 1 ao b off len cap olds) (x : Nat) (hx : x < 18446744073709551616) (sv : Value) (m : Nat) (ks : List Value) (w : World) (honto : Onto W0 5 1 ao b off len cap olds w sv m ks) (hlim : len + m + 10 ≤ 140737488355328) :
    Calls Tryz.prog 87 #[sv, .int .u64 x] w fun e w' => ∃ v', e = .returned v' ∧ Onto W0 5 1 ao b off len cap olds w' v' (m + (Lib.uvarint x).length) (ks ++ Lib.byteCells (Lib.uvarint x)) := Any.binary_AppendUvarint_arg Tryz.laysBin47 W0 ao b off len cap olds hc x hx sv m ks w honto hlim
def Tryz.laysnb116_ren : Go.Shelf.Ren := ⟨fun | 116 => 37 | 115 => 74 | n => n, fun | 37 => 26 | 4 => 4 | 3 => 3 | 9 => 9 | 5 => 5 | n => n, fun | n => n⟩
theorem Tryz.laysnb116 : Go.Proofs.Lays.nb116 Tryz.prog Tryz.laysnb116_ren := {
  mixed := by kernel_rfl
  f115 := Tryz.func74.trans (congrArg some (by kernel_rfl))
  f116 := Tryz.func37.trans (congrArg some (by kernel_rfl))
  t3 := Tryz.underlying3
  a3 := Tryz.isAgg3
  z3 := Tryz.sizeOf3
  v3 := Tryz.zeroValue3
  t4 := Tryz.underlying4
  a4 := Tryz.isAgg4
  z4 := Tryz.sizeOf4
  v4 := Tryz.zeroValue4
  t9 := Tryz.underlying9
  a9 := Tryz.isAgg9
  z9 := Tryz.sizeOf9
  v9 := Tryz.zeroValue9
  t37 := Tryz.underlying26
  a37 := Tryz.isAgg26
  z37 := Tryz.sizeOf26
  v37 := Tryz.zeroValue26
  t5 := Tryz.underlying5
  a5 := Tryz.isAgg5
  z5 := Tryz.sizeOf5
  v5 := Tryz.zeroValue5 }
theorem Tryz.bytes_HasPrefix_e2 (p1 p2 : Option Addr) (n c d : Nat) (w : World) :
    Calls Tryz.prog 37 #[.slice p1 n c, .slice p2 0 d] w fun e w' => e = .returned (.bool true) ∧ w' = w := Any.bytes_HasPrefix_e2 Tryz.laysnb116 p1 p2 n c d w
theorem Tryz.bytes_HasPrefix_e1 (p1 p2 : Option Addr) (c m d : Nat) (hm : 0 < m) (w : World) :
    Calls Tryz.prog 37 #[.slice p1 0 c, .slice p2 m d] w fun e w' => e = .returned (.bool false) ∧ w' = w := Any.bytes_HasPrefix_e1 Tryz.laysnb116 p1 p2 c m d hm w
/-- bytes.HasPrefix: WHOLE: each argument nil, or of no byte at whatever address, or at an address with its cells. (LAID: no walk: one application.) -/
theorem Tryz.bytes_HasPrefix_all (p1 p2 : Option Addr) (n c m d : Nat) (xs ys : List Int) (w : World) (hx : xs.length = n) (hy : ys.length = m) (hnc : n ≤ c) (h1 : Lib.BytesIn w p1 n xs) (h2 : Lib.BytesIn w p2 m ys) :
    Calls Tryz.prog 37 #[.slice p1 n c, .slice p2 m d] w fun e w' => e = .returned (.bool (Lib.hasPrefix (Lib.bytesOf xs) (Lib.bytesOf ys))) ∧ w' = w := Any.bytes_HasPrefix_all Tryz.laysnb116 p1 p2 n c m d xs ys w hx hy hnc h1 h2
def Tryz.lays115_ren : Go.Shelf.Ren := ⟨fun | 115 => 74 | n => n, fun | 37 => 26 | 4 => 4 | 9 => 9 | 5 => 5 | n => n, fun | n => n⟩
theorem Tryz.lays115 : Go.Proofs.Lays.n115 Tryz.prog Tryz.lays115_ren := {
  mixed := by kernel_rfl
  f115 := Tryz.func74.trans (congrArg some (by kernel_rfl))
  t4 := Tryz.underlying4
  a4 := Tryz.isAgg4
  z4 := Tryz.sizeOf4
  v4 := Tryz.zeroValue4
  t9 := Tryz.underlying9
  a9 := Tryz.isAgg9
  z9 := Tryz.sizeOf9
  v9 := Tryz.zeroValue9
  t37 := Tryz.underlying26
  a37 := Tryz.isAgg26
  z37 := Tryz.sizeOf26
  v37 := Tryz.zeroValue26 }
/-- bytes.Equal: "Equal reports whether a and b are the same length and contain the same bytes. A nil argument is equivalent to an empty slice.": IT RETURNS 'the bytes of the one == the bytes of the other'; the world is as it was. THE TWO ARGUMENTS COME AS WHATEVER VALUES, each with the one fact that the walk wants of it: what 'string(..)' of it gives: for a slice whose cells you know: 'run_convert_bytes_arg' (Derived/Laws/BytesArg.lean) hands that fact; for a nil one: 'run_convert_bytes_nil' (with xs := []). (LAID: no walk: one application.) -/
theorem Tryz.bytes_Equal (v1 v2 : Value) (xs ys : List Int) (w : World) (h1 : (convert 26 9 v1).run Tryz.prog w = .ok (.string (strOfNums xs)) w) (h2 : (convert 26 9 v2).run Tryz.prog w = .ok (.string (strOfNums ys)) w) :
    Calls Tryz.prog 74 #[v1, v2] w fun e w' => e = .returned (.bool (Lib.bytesOf xs == Lib.bytesOf ys)) ∧ w' = w := Any.bytes_Equal Tryz.lays115 v1 v2 xs ys w h1 h2
/-- bytes.HasPrefix: "HasPrefix reports whether the byte slice s begins with prefix.": IT RETURNS 'Lib.hasPrefix (the bytes of s) (the bytes of prefix)'; the world is as it was. ITS CALLEE bytes.Equal IS MET BY ITS OWN CONTRACT OFF THE SHELF (lay that first). 'xs', 'ys': the numbers that the two slices' cells hold. (LAID: no walk: one application.) -/
theorem Tryz.bytes_HasPrefix (b1 o1 n c b2 o2 m d : Nat) (xs ys : List Int) (w : World) (hx : xs.length = n) (hy : ys.length = m) (hnc : n ≤ c) (hc1 : ∀ i, i < n → w.cell? ⟨b1, o1 + i, none⟩ = some (.int .u8 (xs.getD i 0))) (hc2 : ∀ i, i < m → w.cell? ⟨b2, o2 + i, none⟩ = some (.int .u8 (ys.getD i 0))) :
    Calls Tryz.prog 37 #[.slice (some ⟨b1, o1, none⟩) n c, .slice (some ⟨b2, o2, none⟩) m d] w fun e w' => e = .returned (.bool (Lib.hasPrefix (Lib.bytesOf xs) (Lib.bytesOf ys))) ∧ w' = w := Any.bytes_HasPrefix Tryz.laysnb116 b1 o1 n c b2 o2 m d xs ys w hx hy hnc hc1 hc2
end Go.Proofs
