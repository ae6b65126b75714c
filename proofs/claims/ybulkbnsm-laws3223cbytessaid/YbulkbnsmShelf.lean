/-
  DERIVED: THE SHELF's CONTRACTS AT THIS DUMP, IN PLAIN WORDS (tools/lay-plain.mjs out of 'YbaShelf.lean', which tools/lay-shelf.mjs wrote): THE SAME DECLARATIONS UNDER THE SAME NAMES: 'import', 'namespace', 'open', 'def', 'theorem' AND NOTHING ELSE: no command of the shelf's: FOR A HAND-IN. Each laying: the table of numbers ('.._ren') and one theorem, a field a fact of the dump's own or the kernel's comparison; each contract: ONE APPLICATION.
-/
import Derived.Ground.MnProg
import Derived.Shelf.Bin.LEAppendUint64
import Derived.Test.YbulkbnsmProg
namespace Go.Proofs
open Go.Shelf
def Yba.laysBin35_ren : Go.Shelf.Ren := ⟨fun | 35 => 5 | n => n, fun | 25 => 29 | 22 => 27 | 33 => 24 | 0 => 0 | 5 => 5 | 45 => 25 | n => n, fun | n => n⟩
theorem Yba.laysBin35 : Go.Proofs.LaysBin.n35 Yba.prog Yba.laysBin35_ren := {
  mixed := by kernel_rfl
  f35 := Yba.func5.trans (congrArg some (by kernel_rfl))
  t0 := Yba.underlying0
  a0 := Yba.isAgg0
  z0 := Yba.sizeOf0
  v0 := Yba.zeroValue0
  i0 := by kernel_rfl
  t5 := Yba.underlying5
  a5 := Yba.isAgg5
  z5 := Yba.sizeOf5
  v5 := Yba.zeroValue5
  i5 := by kernel_rfl
  t22 := Yba.underlying27
  a22 := Yba.isAgg27
  z22 := Yba.sizeOf27
  v22 := Yba.zeroValue27
  i22 := by kernel_rfl
  t25 := Yba.underlying29
  a25 := Yba.isAgg29
  z25 := Yba.sizeOf29
  v25 := Yba.zeroValue29
  i25 := by kernel_rfl
  t33 := Yba.underlying24
  a33 := Yba.isAgg24
  z33 := Yba.sizeOf24
  v33 := Yba.zeroValue24
  i33 := by kernel_rfl
  t45 := Yba.underlying25
  a45 := Yba.isAgg25
  z45 := Yba.sizeOf25
  v45 := Yba.zeroValue25
  i45 := by kernel_rfl }
open Go.RowKit in
/-- binary.LittleEndian.AppendUint64: "AppendUint64 appends the bytes of v to b and returns the appended slice.": WHAT COMES BACK OWNS b's CELLS AND, BEHIND THEM, v's 8 BYTES, the least first ('Lib.leBytes 8 v'). Below the call's own blocks nothing has turned. (LAID: no walk: one application.) -/
theorem Yba.binary_LE_AppendUint64 (B n v : Nat) (hv : v < 18446744073709551616) (sv : Value) (xs : List Value) (w : World) (hown : w.ownsRow B 5 1 sv n xs) (hBw : B ≤ w.heap.size) (hlim : n + 8 ≤ 140737488355328) :
    Calls Yba.prog 5 #[.agg #[], sv, .int .u64 v] w fun e w' => ∃ v', e = .returned v' ∧ w'.ownsRow B 5 1 v' (n + 8) (xs ++ Lib.byteCells (Lib.leBytes 8 v)) ∧ Below B w w' := Any.binary_LE_AppendUint64 Yba.laysBin35 B n v hv sv xs w hown hBw hlim
end Go.Proofs
