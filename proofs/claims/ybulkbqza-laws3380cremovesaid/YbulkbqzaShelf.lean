/-
  DERIVED: THE SHELF's CONTRACTS AT THIS DUMP, IN PLAIN WORDS (tools/lay-plain.mjs out of 'YbaShelf.lean', which tools/lay-shelf.mjs wrote): THE SAME DECLARATIONS UNDER THE SAME NAMES: 'import', 'namespace', 'open', 'def', 'theorem' AND NOTHING ELSE: no command of the shelf's: FOR A HAND-IN. Each laying: the table of numbers ('.._ren') and one theorem, a field a fact of the dump's own or the kernel's comparison; each contract: ONE APPLICATION.
-/
import Derived.Shelf.Small.Bits
import Derived.Shelf.Strconv.Itoa0
import Derived.Ground.MnProg
import Derived.Shelf.Bin.BEUint64
import Derived.Shelf.Bin.BEPutUint64
import Derived.Shelf.Bin.BEUint64Panics
import Derived.Shelf.Bin.ReadersZ
import Derived.Shelf.SlSortCmp.Xorshift
import Derived.Ground.SlsfProg
import Derived.Test.YbulkbqzaProg
namespace Go.Proofs
open Go.Shelf
def Yba.lays128_ren : Go.Shelf.Ren := ⟨fun | 128 => 35 | n => n, fun | 51 => 25 | 3 => 3 | 4 => 4 | 46 => 56 | 5 => 5 | 9 => 9 | n => n, fun | n => n⟩
theorem Yba.lays128 : Go.Proofs.Lays.n128 Yba.prog Yba.lays128_ren := {
  mixed := by kernel_rfl
  f128 := Yba.func35.trans (congrArg some (by kernel_rfl))
  t3 := Yba.underlying3
  a3 := Yba.isAgg3
  z3 := Yba.sizeOf3
  v3 := Yba.zeroValue3
  t4 := Yba.underlying4
  a4 := Yba.isAgg4
  z4 := Yba.sizeOf4
  v4 := Yba.zeroValue4
  t5 := Yba.underlying5
  a5 := Yba.isAgg5
  z5 := Yba.sizeOf5
  v5 := Yba.zeroValue5
  t9 := Yba.underlying9
  a9 := Yba.isAgg9
  z9 := Yba.sizeOf9
  v9 := Yba.zeroValue9
  t46 := Yba.underlying56
  a46 := Yba.isAgg56
  z46 := Yba.sizeOf56
  v46 := Yba.zeroValue56
  t51 := Yba.underlying25
  a51 := Yba.isAgg25
  z51 := Yba.sizeOf25
  v51 := Yba.zeroValue25 }
/-- bits.Len32: "Len32 returns the minimum number of bits required to represent x; the result is 0 for x == 0.": IT RETURNS 'Lib.bitLen x'; the world is as it was. ('h0', 'h1': x is a uint32.) (LAID: no walk: one application.) -/
theorem Yba.bits_Len32 (x : Int) (w : World) (h0 : 0 ≤ x) (h1 : x ≤ 4294967295) :
    Calls Yba.prog 35 #[.int .u32 x] w fun e w' => e = .returned (.int .i64 (Lib.bitLen x.toNat)) ∧ w' = w := Any.bits_Len32 Yba.lays128 x w h0 h1
def Yba.lays125_ren : Go.Shelf.Ren := ⟨fun | 125 => 20 | 128 => 35 | 129 => 36 | n => n, fun | 46 => 56 | 3 => 3 | 51 => 25 | 53 => 79 | 4 => 4 | 5 => 5 | 9 => 9 | n => n, fun | n => n⟩
theorem Yba.lays125 : Go.Proofs.Lays.n125 Yba.prog Yba.lays125_ren := {
  mixed := by kernel_rfl
  f125 := Yba.func20.trans (congrArg some (by kernel_rfl))
  f128 := Yba.func35.trans (congrArg some (by kernel_rfl))
  f129 := Yba.func36.trans (congrArg some (by kernel_rfl))
  t3 := Yba.underlying3
  a3 := Yba.isAgg3
  z3 := Yba.sizeOf3
  v3 := Yba.zeroValue3
  t4 := Yba.underlying4
  a4 := Yba.isAgg4
  z4 := Yba.sizeOf4
  v4 := Yba.zeroValue4
  t5 := Yba.underlying5
  a5 := Yba.isAgg5
  z5 := Yba.sizeOf5
  v5 := Yba.zeroValue5
  t9 := Yba.underlying9
  a9 := Yba.isAgg9
  z9 := Yba.sizeOf9
  v9 := Yba.zeroValue9
  t46 := Yba.underlying56
  a46 := Yba.isAgg56
  z46 := Yba.sizeOf56
  v46 := Yba.zeroValue56
  t51 := Yba.underlying25
  a51 := Yba.isAgg25
  z51 := Yba.sizeOf25
  v51 := Yba.zeroValue25
  t53 := Yba.underlying79
  a53 := Yba.isAgg79
  z53 := Yba.sizeOf79
  v53 := Yba.zeroValue79 }
/-- bits.Len: "Len returns the minimum number of bits required to represent x; the result is 0 for x == 0.": IT RETURNS 'Lib.bitLen x'; the world is as it was. (A uint has 64 bits in the model.) ITS CALLEE bits.Len64 IS MET BY ITS OWN CONTRACT OFF THE SHELF (lay that first). (LAID: no walk: one application.) -/
theorem Yba.bits_Len (x : Int) (w : World) (h0 : 0 ≤ x) (h1 : x ≤ 18446744073709551615) :
    Calls Yba.prog 20 #[.int .u64 x] w fun e w' => e = .returned (.int .i64 (Lib.bitLen x.toNat)) ∧ w' = w := Any.bits_Len Yba.lays125 x w h0 h1
def Yba.lays129_ren : Go.Shelf.Ren := ⟨fun | 129 => 36 | n => n, fun | 53 => 79 | 3 => 3 | 4 => 4 | 46 => 56 | 5 => 5 | 9 => 9 | n => n, fun | n => n⟩
theorem Yba.lays129 : Go.Proofs.Lays.n129 Yba.prog Yba.lays129_ren := {
  mixed := by kernel_rfl
  f129 := Yba.func36.trans (congrArg some (by kernel_rfl))
  t3 := Yba.underlying3
  a3 := Yba.isAgg3
  z3 := Yba.sizeOf3
  v3 := Yba.zeroValue3
  t4 := Yba.underlying4
  a4 := Yba.isAgg4
  z4 := Yba.sizeOf4
  v4 := Yba.zeroValue4
  t5 := Yba.underlying5
  a5 := Yba.isAgg5
  z5 := Yba.sizeOf5
  v5 := Yba.zeroValue5
  t9 := Yba.underlying9
  a9 := Yba.isAgg9
  z9 := Yba.sizeOf9
  v9 := Yba.zeroValue9
  t46 := Yba.underlying56
  a46 := Yba.isAgg56
  z46 := Yba.sizeOf56
  v46 := Yba.zeroValue56
  t53 := Yba.underlying79
  a53 := Yba.isAgg79
  z53 := Yba.sizeOf79
  v53 := Yba.zeroValue79 }
/-- bits.Len64: "Len64 returns the minimum number of bits required to represent x; the result is 0 for x == 0.": IT RETURNS 'Lib.bitLen x'; the world is as it was. ('h0', 'h1': x is a uint64.) (LAID: no walk: one application.) -/
theorem Yba.bits_Len64 (x : Int) (w : World) (h0 : 0 ≤ x) (h1 : x ≤ 18446744073709551615) :
    Calls Yba.prog 36 #[.int .u64 x] w fun e w' => e = .returned (.int .i64 (Lib.bitLen x.toNat)) ∧ w' = w := Any.bits_Len64 Yba.lays129 x w h0 h1
def Yba.laysBin42_ren : Go.Shelf.Ren := ⟨fun | 42 => 50 | n => n, fun | 37 => 92 | 22 => 64 | 33 => 79 | 0 => 0 | 5 => 5 | 45 => 56 | n => n, fun | n => n⟩
theorem Yba.laysBin42 : Go.Proofs.LaysBin.n42 Yba.prog Yba.laysBin42_ren := {
  mixed := by kernel_rfl
  f42 := Yba.func50.trans (congrArg some (by kernel_rfl))
  t0 := Yba.underlying0
  a0 := Yba.isAgg0
  z0 := Yba.sizeOf0
  v0 := Yba.zeroValue0
  i0 := by kernel_rfl
  t5 := Yba.underlying5
  a5 := Yba.isAgg5
  z5 := Yba.sizeOf5
  v5 := Yba.zeroValue5
  i5 := by kernel_rfl
  t22 := Yba.underlying64
  a22 := Yba.isAgg64
  z22 := Yba.sizeOf64
  v22 := Yba.zeroValue64
  i22 := by kernel_rfl
  t33 := Yba.underlying79
  a33 := Yba.isAgg79
  z33 := Yba.sizeOf79
  v33 := Yba.zeroValue79
  i33 := by kernel_rfl
  t37 := Yba.underlying92
  a37 := Yba.isAgg92
  z37 := Yba.sizeOf92
  v37 := Yba.zeroValue92
  i37 := by kernel_rfl
  t45 := Yba.underlying56
  a45 := Yba.isAgg56
  z45 := Yba.sizeOf56
  v45 := Yba.zeroValue56
  i45 := by kernel_rfl }
open Go.RowKit in
/-- binary.BigEndian.Uint64: "Uint64 returns the uint64 representation of b[0:8].": THE NUMBER THAT THE FIRST 8 BYTES SPELL, the greatest byte first ('Lib.beNat'). Of what was there nothing has turned (the receiver, an empty struct, is laid in a new block without cells; the statement's order is drawn). (LAID: no walk: one application.) -/
theorem Yba.binary_BE_Uint64 (g o n c : Nat) (b0 b1 b2 b3 b4 b5 b6 b7 : UInt8) (w : World) (hn : 8 ≤ n) (c0 : w.cell? ⟨g, o, none⟩ = some (.int .u8 b0.toNat)) (c1 : w.cell? ⟨g, o + 1, none⟩ = some (.int .u8 b1.toNat)) (c2 : w.cell? ⟨g, o + 2, none⟩ = some (.int .u8 b2.toNat)) (c3 : w.cell? ⟨g, o + 3, none⟩ = some (.int .u8 b3.toNat)) (c4 : w.cell? ⟨g, o + 4, none⟩ = some (.int .u8 b4.toNat)) (c5 : w.cell? ⟨g, o + 5, none⟩ = some (.int .u8 b5.toNat)) (c6 : w.cell? ⟨g, o + 6, none⟩ = some (.int .u8 b6.toNat)) (c7 : w.cell? ⟨g, o + 7, none⟩ = some (.int .u8 b7.toNat)) :
    Calls Yba.prog 50 #[.agg #[], .slice (some ⟨g, o, none⟩) n c] w fun e w' => e = .returned (.int .u64 (Lib.beNat [b0, b1, b2, b3, b4, b5, b6, b7])) ∧ Below w.heap.size w w' := Any.binary_BE_Uint64 Yba.laysBin42 g o n c b0 b1 b2 b3 b4 b5 b6 b7 w hn c0 c1 c2 c3 c4 c5 c6 c7
def Yba.laysBin43_ren : Go.Shelf.Ren := ⟨fun | 43 => 51 | n => n, fun | 37 => 92 | 22 => 64 | 33 => 79 | 0 => 0 | 5 => 5 | 45 => 56 | n => n, fun | n => n⟩
theorem Yba.laysBin43 : Go.Proofs.LaysBin.n43 Yba.prog Yba.laysBin43_ren := {
  mixed := by kernel_rfl
  f43 := Yba.func51.trans (congrArg some (by kernel_rfl))
  t0 := Yba.underlying0
  a0 := Yba.isAgg0
  z0 := Yba.sizeOf0
  v0 := Yba.zeroValue0
  i0 := by kernel_rfl
  t5 := Yba.underlying5
  a5 := Yba.isAgg5
  z5 := Yba.sizeOf5
  v5 := Yba.zeroValue5
  i5 := by kernel_rfl
  t22 := Yba.underlying64
  a22 := Yba.isAgg64
  z22 := Yba.sizeOf64
  v22 := Yba.zeroValue64
  i22 := by kernel_rfl
  t33 := Yba.underlying79
  a33 := Yba.isAgg79
  z33 := Yba.sizeOf79
  v33 := Yba.zeroValue79
  i33 := by kernel_rfl
  t37 := Yba.underlying92
  a37 := Yba.isAgg92
  z37 := Yba.sizeOf92
  v37 := Yba.zeroValue92
  i37 := by kernel_rfl
  t45 := Yba.underlying56
  a45 := Yba.isAgg56
  z45 := Yba.sizeOf56
  v45 := Yba.zeroValue56
  i45 := by kernel_rfl }
open Go.RowKit in
/-- binary.BigEndian.PutUint64: "PutUint64 stores v into b[0:8].": v's 8 BYTES, the greatest first ('Lib.beBytes 8 v'), ARE LAID IN THE SLICE's FIRST 8 CELLS ('World.setCells'); nothing else turns (the receiver, an empty struct, is laid in a new block without cells). (LAID: no walk: one application.) -/
theorem Yba.binary_BE_PutUint64 (g o n c v : Nat) (hv : v < 18446744073709551616) (x0 x1 x2 x3 x4 x5 x6 x7 : Value) (w : World) (hn : 8 ≤ n) (c0 : w.cell? ⟨g, o, none⟩ = some x0) (c1 : w.cell? ⟨g, o + 1, none⟩ = some x1) (c2 : w.cell? ⟨g, o + 2, none⟩ = some x2) (c3 : w.cell? ⟨g, o + 3, none⟩ = some x3) (c4 : w.cell? ⟨g, o + 4, none⟩ = some x4) (c5 : w.cell? ⟨g, o + 5, none⟩ = some x5) (c6 : w.cell? ⟨g, o + 6, none⟩ = some x6) (c7 : w.cell? ⟨g, o + 7, none⟩ = some x7) (f0 : w.frozen? ⟨g, o, none⟩ = false) (f1 : w.frozen? ⟨g, o + 1, none⟩ = false) (f2 : w.frozen? ⟨g, o + 2, none⟩ = false) (f3 : w.frozen? ⟨g, o + 3, none⟩ = false) (f4 : w.frozen? ⟨g, o + 4, none⟩ = false) (f5 : w.frozen? ⟨g, o + 5, none⟩ = false) (f6 : w.frozen? ⟨g, o + 6, none⟩ = false) (f7 : w.frozen? ⟨g, o + 7, none⟩ = false) :
    Calls Yba.prog 51 #[.agg #[], .slice (some ⟨g, o, none⟩) n c, .int .u64 v] w fun e w' => e = .returned (.tuple #[]) ∧ w' = (w.alloc (.cells #[] 92)).setCells g o (Lib.byteCells (Lib.beBytes 8 v)) := Any.binary_BE_PutUint64 Yba.laysBin43 g o n c v hv x0 x1 x2 x3 x4 x5 x6 x7 w hn c0 c1 c2 c3 c4 c5 c6 c7 f0 f1 f2 f3 f4 f5 f6 f7
open Go.RowKit in
/-- binary.BigEndian.Uint64, b SHORTER THAN 8: IT PANICS: Go's 'runtime error: index out of range [7] with length n' ('Lib.boundsPanicked'). THE WORLD: the receiver's new block without cells, and the draw of the panic's flag. (LAID: no walk: one application.) -/
theorem Yba.binary_BE_Uint64_panics (ao : Option Addr) (n c : Nat) (w : World) (hn : n < 8) (hnil : ao = none → n = 0) :
    Calls Yba.prog 50 #[.agg #[], .slice ao n c] w fun e w' => Lib.boundsPanicked Yba.prog 7 n e ∧ w' = (w.alloc (.cells #[] 92)).drew := Any.binary_BE_Uint64_panics Yba.laysBin42 ao n c w hn hnil
open Go.RowKit in
/-- binary.BigEndian.Uint64, ITS PREMISES 'open_ints'' CONCLUSION TO THE LETTER: a slice at WHATEVER address a, the numbers zs that its cells hold: THE NUMBER THAT THE FIRST 8 SPELL ('Lib.beZ'). (LAID: no walk: one application.) -/
theorem Yba.binary_BE_Uint64_z (a : Addr) (n c : Nat) (zs : List Int) (w : World) (hn : 8 ≤ n) (hl : 8 ≤ zs.length) (hcell : ∀ i, i < zs.length → w.cell? (a.add i) = some (.int .u8 (zs.getD i 0))) (hw : ∀ z ∈ zs, (Lit.int .u8 z).wf = true) :
    Calls Yba.prog 50 #[.agg #[], .slice (some a) n c] w fun e w' => e = .returned (.int .u64 (Lib.beZ (zs.take 8))) ∧ Below w.heap.size w w' := Any.binary_BE_Uint64_z Yba.laysBin42 a n c zs w hn hl hcell hw
def Yba.laysF48_ren : Go.Shelf.Ren := ⟨fun | 48 => 46 | n => n, fun | 76 => 97 | 55 => 79 | 0 => 0 | 66 => 84 | 39 => 56 | n => n, fun | n => n⟩
theorem Yba.laysF48 : Go.Proofs.SlLaysF0.n48 Yba.prog Yba.laysF48_ren := {
  mixed := by kernel_rfl
  f48 := Yba.func46.trans (congrArg some (by kernel_rfl))
  t0 := Yba.underlying0
  a0 := Yba.isAgg0
  z0 := Yba.sizeOf0
  v0 := Yba.zeroValue0
  t39 := Yba.underlying56
  a39 := Yba.isAgg56
  z39 := Yba.sizeOf56
  v39 := Yba.zeroValue56
  t55 := Yba.underlying79
  a55 := Yba.isAgg79
  z55 := Yba.sizeOf79
  v55 := Yba.zeroValue79
  t66 := Yba.underlying84
  a66 := Yba.isAgg84
  z66 := Yba.sizeOf84
  v66 := Yba.zeroValue84
  t76 := Yba.underlying97
  a76 := Yba.isAgg97
  z76 := Yba.sizeOf97
  v76 := Yba.zeroValue97 }
open Go.RowKit Go.Lib Go.Sort in
/-- slices.xorshift.Next (LAID: no walk: one application.) -/
theorem Yba.xorshift_Next (rb ro X : Nat) (hX : X < 18446744073709551616) (w : World) (hc : w.cell? ⟨rb, ro, none⟩ = some (.int .u64 X)) (hf : w.frozen? ⟨rb, ro, none⟩ = false) :
    Calls Yba.prog 46 #[.pointer (some ⟨rb, ro, none⟩)] w fun e w' => e = .returned (.int .u64 (xorNextN X : Nat)) ∧ w' = (w.setCell ⟨rb, ro, none⟩ (.int .u64 (xorNextN X : Nat))).drewN 3 := AnyF.xorshift_Next Yba.laysF48 rb ro X hX w hc hf
def Yba.laysF47_ren : Go.Shelf.Ren := ⟨fun | 47 => 45 | 15 => 20 | 28 => 35 | 29 => 36 | n => n, fun | 3 => 3 | 39 => 56 | 53 => 25 | 55 => 79 | 4 => 4 | 5 => 5 | 9 => 9 | n => n, fun | n => n⟩
theorem Yba.laysF47 : Go.Proofs.SlLaysF0.n47 Yba.prog Yba.laysF47_ren := {
  mixed := by kernel_rfl
  f15 := Yba.func20.trans (congrArg some (by kernel_rfl))
  f28 := Yba.func35.trans (congrArg some (by kernel_rfl))
  f29 := Yba.func36.trans (congrArg some (by kernel_rfl))
  f47 := Yba.func45.trans (congrArg some (by kernel_rfl))
  t3 := Yba.underlying3
  a3 := Yba.isAgg3
  z3 := Yba.sizeOf3
  v3 := Yba.zeroValue3
  t4 := Yba.underlying4
  a4 := Yba.isAgg4
  z4 := Yba.sizeOf4
  v4 := Yba.zeroValue4
  t5 := Yba.underlying5
  a5 := Yba.isAgg5
  z5 := Yba.sizeOf5
  v5 := Yba.zeroValue5
  t9 := Yba.underlying9
  a9 := Yba.isAgg9
  z9 := Yba.sizeOf9
  v9 := Yba.zeroValue9
  t39 := Yba.underlying56
  a39 := Yba.isAgg56
  z39 := Yba.sizeOf56
  v39 := Yba.zeroValue56
  t53 := Yba.underlying25
  a53 := Yba.isAgg25
  z53 := Yba.sizeOf25
  v53 := Yba.zeroValue25
  t55 := Yba.underlying79
  a55 := Yba.isAgg79
  z55 := Yba.sizeOf79
  v55 := Yba.zeroValue79 }
open Go.RowKit Go.Lib Go.Sort in
/-- slices.nextPowerOfTwo (LAID: no walk: one application.) -/
theorem Yba.nextPowerOfTwo (n : Nat) (hn : n < 4611686018427387904) (w : World) :
    Calls Yba.prog 45 #[.int .i64 n] w fun e w' => e = .returned (.int .u64 ((1 <<< bitsLen n : Nat) : Int)) ∧ w' = w := AnyF.nextPowerOfTwo Yba.laysF47 n hn w
end Go.Proofs
