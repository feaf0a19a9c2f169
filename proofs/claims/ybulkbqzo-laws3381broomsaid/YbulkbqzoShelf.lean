/-
  DERIVED: THE SHELF's CONTRACTS AT THIS DUMP, IN PLAIN WORDS (tools/lay-plain.mjs out of 'YbulkbqzoShelf0.lean', which tools/lay-shelf.mjs wrote): THE SAME DECLARATIONS UNDER THE SAME NAMES: 'import', 'namespace', 'open', 'def', 'theorem' AND NOTHING ELSE: no command of the shelf's: FOR A HAND-IN. Each laying: the table of numbers ('.._ren') and one theorem, a field a fact of the dump's own or the kernel's comparison; each contract: ONE APPLICATION.
-/
import Derived.Shelf.Small.Bits
import Derived.Shelf.Strconv.Itoa0
import Derived.Ground.GgsProg
import Derived.Shelf.SlSortFunc.Xorshift
import Derived.Test.YbulkbqzoProg
namespace Go.Proofs
open Go.Shelf
def Yba.lays125_ren : Go.Shelf.Ren := ⟨fun | 125 => 7 | 128 => 9 | 129 => 10 | n => n, fun | 46 => 50 | 3 => 3 | 51 => 53 | 53 => 41 | 4 => 4 | 5 => 5 | 9 => 9 | n => n, fun | n => n⟩
theorem Yba.lays125 : Go.Proofs.Lays.n125 Yba.prog Yba.lays125_ren := {
  mixed := by kernel_rfl
  f125 := Yba.func7.trans (congrArg some (by kernel_rfl))
  f128 := Yba.func9.trans (congrArg some (by kernel_rfl))
  f129 := Yba.func10.trans (congrArg some (by kernel_rfl))
  t3 := Yba.underlying3
  a3 := Yba.isAgg3
  z3 := Yba.sizeOf3
  v3 := Yba.zeroValue3
  t4 := Yba.underlying4
  a4 := Yba.isAgg4
  z4 := Yba.sizeOf4
  v4 := Yba.zeroValue4
  t5 := Yba.underlying5
  a5 := Yba.isAgg5
  z5 := Yba.sizeOf5
  v5 := Yba.zeroValue5
  t9 := Yba.underlying9
  a9 := Yba.isAgg9
  z9 := Yba.sizeOf9
  v9 := Yba.zeroValue9
  t46 := Yba.underlying50
  a46 := Yba.isAgg50
  z46 := Yba.sizeOf50
  v46 := Yba.zeroValue50
  t51 := Yba.underlying53
  a51 := Yba.isAgg53
  z51 := Yba.sizeOf53
  v51 := Yba.zeroValue53
  t53 := Yba.underlying41
  a53 := Yba.isAgg41
  z53 := Yba.sizeOf41
  v53 := Yba.zeroValue41 }
/-- bits.Len: "Len returns the minimum number of bits required to represent x; the result is 0 for x == 0.": IT RETURNS 'Lib.bitLen x'; the world is as it was. (A uint has 64 bits in the model.) ITS CALLEE bits.Len64 IS MET BY ITS OWN CONTRACT OFF THE SHELF (lay that first). (LAID: no walk: one application.) -/
theorem Yba.bits_Len (x : Int) (w : World) (h0 : 0 ≤ x) (h1 : x ≤ 18446744073709551615) :
    Calls Yba.prog 7 #[.int .u64 x] w fun e w' => e = .returned (.int .i64 (Lib.bitLen x.toNat)) ∧ w' = w := Any.bits_Len Yba.lays125 x w h0 h1
def Yba.laysGg36_ren : Go.Shelf.Ren := ⟨fun | 36 => 21 | n => n, fun | 66 => 70 | 51 => 41 | 0 => 0 | 60 => 64 | 41 => 50 | n => n, fun | n => n⟩
theorem Yba.laysGg36 : Go.Proofs.LaysGg.n36 Yba.prog Yba.laysGg36_ren := {
  mixed := by kernel_rfl
  f36 := Yba.func21.trans (congrArg some (by kernel_rfl))
  t0 := Yba.underlying0
  a0 := Yba.isAgg0
  z0 := Yba.sizeOf0
  v0 := Yba.zeroValue0
  i0 := by kernel_rfl
  t41 := Yba.underlying50
  a41 := Yba.isAgg50
  z41 := Yba.sizeOf50
  v41 := Yba.zeroValue50
  i41 := by kernel_rfl
  t51 := Yba.underlying41
  a51 := Yba.isAgg41
  z51 := Yba.sizeOf41
  v51 := Yba.zeroValue41
  i51 := by kernel_rfl
  t60 := Yba.underlying64
  a60 := Yba.isAgg64
  z60 := Yba.sizeOf64
  v60 := Yba.zeroValue64
  i60 := by kernel_rfl
  t66 := Yba.underlying70
  a66 := Yba.isAgg70
  z66 := Yba.sizeOf70
  v66 := Yba.zeroValue70
  i66 := by kernel_rfl }
open Go.RowKit Go.Lib Go.Sort in
/-- '*r ^= *r << 13; *r ^= *r >> 7; *r ^= *r << 17; return uint64(*r)': the cell holds 'xorNextN X' and that is handed back; three draws; nothing else turns. (LAID: no walk: one application.) -/
theorem Yba.xorshift_Next (rb ro X : Nat) (hX : X < 18446744073709551616) (w : World) (hc : w.cell? ⟨rb, ro, none⟩ = some (.int .u64 X)) (hf : w.frozen? ⟨rb, ro, none⟩ = false) :
    Calls Yba.prog 21 #[.pointer (some ⟨rb, ro, none⟩)] w fun e w' => e = .returned (.int .u64 (xorNextN X : Nat)) ∧ w' = (w.setCell ⟨rb, ro, none⟩ (.int .u64 (xorNextN X : Nat))).drewN 3 := Any.xorshift_Next Yba.laysGg36 rb ro X hX w hc hf
def Yba.laysGg35_ren : Go.Shelf.Ren := ⟨fun | 35 => 20 | 13 => 7 | 24 => 9 | 25 => 10 | n => n, fun | 3 => 3 | 41 => 50 | 49 => 53 | 51 => 41 | 4 => 4 | 5 => 5 | 9 => 9 | n => n, fun | n => n⟩
theorem Yba.laysGg35 : Go.Proofs.LaysGg.n35 Yba.prog Yba.laysGg35_ren := {
  mixed := by kernel_rfl
  f13 := Yba.func7.trans (congrArg some (by kernel_rfl))
  f24 := Yba.func9.trans (congrArg some (by kernel_rfl))
  f25 := Yba.func10.trans (congrArg some (by kernel_rfl))
  f35 := Yba.func20.trans (congrArg some (by kernel_rfl))
  t3 := Yba.underlying3
  a3 := Yba.isAgg3
  z3 := Yba.sizeOf3
  v3 := Yba.zeroValue3
  i3 := by kernel_rfl
  t4 := Yba.underlying4
  a4 := Yba.isAgg4
  z4 := Yba.sizeOf4
  v4 := Yba.zeroValue4
  i4 := by kernel_rfl
  t5 := Yba.underlying5
  a5 := Yba.isAgg5
  z5 := Yba.sizeOf5
  v5 := Yba.zeroValue5
  i5 := by kernel_rfl
  t9 := Yba.underlying9
  a9 := Yba.isAgg9
  z9 := Yba.sizeOf9
  v9 := Yba.zeroValue9
  i9 := by kernel_rfl
  t41 := Yba.underlying50
  a41 := Yba.isAgg50
  z41 := Yba.sizeOf50
  v41 := Yba.zeroValue50
  i41 := by kernel_rfl
  t49 := Yba.underlying53
  a49 := Yba.isAgg53
  z49 := Yba.sizeOf53
  v49 := Yba.zeroValue53
  i49 := by kernel_rfl
  t51 := Yba.underlying41
  a51 := Yba.isAgg41
  z51 := Yba.sizeOf41
  v51 := Yba.zeroValue41
  i51 := by kernel_rfl }
open Go.RowKit Go.Lib Go.Sort in
/-- 'return 1 << bits.Len(uint(length))'. (LAID: no walk: one application.) -/
theorem Yba.nextPowerOfTwo (n : Nat) (hn : n < 4611686018427387904) (w : World) :
    Calls Yba.prog 20 #[.int .i64 n] w fun e w' => e = .returned (.int .u64 ((1 <<< bitsLen n : Nat) : Int)) ∧ w' = w := Any.nextPowerOfTwo Yba.laysGg35 n hn w
end Go.Proofs
