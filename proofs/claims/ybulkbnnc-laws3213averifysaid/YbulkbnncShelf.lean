/-
  DERIVED: THE SHELF's CONTRACTS AT THIS DUMP, IN PLAIN WORDS (tools/lay-plain.mjs out of 'YbaShelf.lean', which tools/lay-shelf.mjs wrote): THE SAME DECLARATIONS UNDER THE SAME NAMES: 'import', 'namespace', 'open', 'def', 'theorem' AND NOTHING ELSE: no command of the shelf's: FOR A HAND-IN. Each laying: the table of numbers ('.._ren') and one theorem, a field a fact of the dump's own or the kernel's comparison; each contract: ONE APPLICATION.
-/
import Derived.Ground.MnProg
import Derived.Ground.Names7Prog
import Derived.Shelf.Spec.BitsCarry
import Derived.Shelf.Bin.LEUint64
import Derived.Shelf.Bin.BEUint16
import Derived.Shelf.Bin.ReadersZ
import Derived.Test.YbulkbnncProg
namespace Go.Proofs
open Go.Shelf
def Yba.laysBin33_ren : Go.Shelf.Ren := ⟨fun | 33 => 14 | n => n, fun | 25 => 51 | 22 => 22 | 33 => 29 | 0 => 0 | 5 => 5 | 45 => 32 | n => n, fun | n => n⟩
theorem Yba.laysBin33 : Go.Proofs.LaysBin.n33 Yba.prog Yba.laysBin33_ren := {
  mixed := by kernel_rfl
  f33 := Yba.func14.trans (congrArg some (by kernel_rfl))
  t0 := Yba.underlying0
  a0 := Yba.isAgg0
  z0 := Yba.sizeOf0
  v0 := Yba.zeroValue0
  i0 := by kernel_rfl
  t5 := Yba.underlying5
  a5 := Yba.isAgg5
  z5 := Yba.sizeOf5
  v5 := Yba.zeroValue5
  i5 := by kernel_rfl
  t22 := Yba.underlying22
  a22 := Yba.isAgg22
  z22 := Yba.sizeOf22
  v22 := Yba.zeroValue22
  i22 := by kernel_rfl
  t25 := Yba.underlying51
  a25 := Yba.isAgg51
  z25 := Yba.sizeOf51
  v25 := Yba.zeroValue51
  i25 := by kernel_rfl
  t33 := Yba.underlying29
  a33 := Yba.isAgg29
  z33 := Yba.sizeOf29
  v33 := Yba.zeroValue29
  i33 := by kernel_rfl
  t45 := Yba.underlying32
  a45 := Yba.isAgg32
  z45 := Yba.sizeOf32
  v45 := Yba.zeroValue32
  i45 := by kernel_rfl }
open Go.RowKit in
/-- binary.LittleEndian.Uint64: "Uint64 returns the uint64 representation of b[0:8].": THE NUMBER THAT THE FIRST 8 BYTES SPELL, the least byte first ('Lib.leNat'). Of what was there nothing has turned (the receiver, an empty struct, is laid in a new block without cells; the statement's order is drawn). (LAID: no walk: one application.) -/
theorem Yba.binary_LE_Uint64 (g o n c : Nat) (b0 b1 b2 b3 b4 b5 b6 b7 : UInt8) (w : World) (hn : 8 ≤ n) (c0 : w.cell? ⟨g, o, none⟩ = some (.int .u8 b0.toNat)) (c1 : w.cell? ⟨g, o + 1, none⟩ = some (.int .u8 b1.toNat)) (c2 : w.cell? ⟨g, o + 2, none⟩ = some (.int .u8 b2.toNat)) (c3 : w.cell? ⟨g, o + 3, none⟩ = some (.int .u8 b3.toNat)) (c4 : w.cell? ⟨g, o + 4, none⟩ = some (.int .u8 b4.toNat)) (c5 : w.cell? ⟨g, o + 5, none⟩ = some (.int .u8 b5.toNat)) (c6 : w.cell? ⟨g, o + 6, none⟩ = some (.int .u8 b6.toNat)) (c7 : w.cell? ⟨g, o + 7, none⟩ = some (.int .u8 b7.toNat)) :
    Calls Yba.prog 14 #[.agg #[], .slice (some ⟨g, o, none⟩) n c] w fun e w' => e = .returned (.int .u64 (Lib.leNat [b0, b1, b2, b3, b4, b5, b6, b7])) ∧ Below w.heap.size w w' := Any.binary_LE_Uint64 Yba.laysBin33 g o n c b0 b1 b2 b3 b4 b5 b6 b7 w hn c0 c1 c2 c3 c4 c5 c6 c7
def Yba.laysBin36_ren : Go.Shelf.Ren := ⟨fun | 36 => 16 | n => n, fun | 37 => 56 | 22 => 22 | 23 => 27 | 0 => 0 | 5 => 5 | 45 => 32 | n => n, fun | n => n⟩
theorem Yba.laysBin36 : Go.Proofs.LaysBin.n36 Yba.prog Yba.laysBin36_ren := {
  mixed := by kernel_rfl
  f36 := Yba.func16.trans (congrArg some (by kernel_rfl))
  t0 := Yba.underlying0
  a0 := Yba.isAgg0
  z0 := Yba.sizeOf0
  v0 := Yba.zeroValue0
  i0 := by kernel_rfl
  t5 := Yba.underlying5
  a5 := Yba.isAgg5
  z5 := Yba.sizeOf5
  v5 := Yba.zeroValue5
  i5 := by kernel_rfl
  t22 := Yba.underlying22
  a22 := Yba.isAgg22
  z22 := Yba.sizeOf22
  v22 := Yba.zeroValue22
  i22 := by kernel_rfl
  t23 := Yba.underlying27
  a23 := Yba.isAgg27
  z23 := Yba.sizeOf27
  v23 := Yba.zeroValue27
  i23 := by kernel_rfl
  t37 := Yba.underlying56
  a37 := Yba.isAgg56
  z37 := Yba.sizeOf56
  v37 := Yba.zeroValue56
  i37 := by kernel_rfl
  t45 := Yba.underlying32
  a45 := Yba.isAgg32
  z45 := Yba.sizeOf32
  v45 := Yba.zeroValue32
  i45 := by kernel_rfl }
open Go.RowKit in
/-- binary.BigEndian.Uint16: "Uint16 returns the uint16 representation of b[0:2].": THE NUMBER THAT THE FIRST 2 BYTES SPELL, the greatest byte first ('Lib.beNat'). Of what was there nothing has turned (the receiver, an empty struct, is laid in a new block without cells; the statement's order is drawn). (LAID: no walk: one application.) -/
theorem Yba.binary_BE_Uint16 (g o n c : Nat) (b0 b1 : UInt8) (w : World) (hn : 2 ≤ n) (c0 : w.cell? ⟨g, o, none⟩ = some (.int .u8 b0.toNat)) (c1 : w.cell? ⟨g, o + 1, none⟩ = some (.int .u8 b1.toNat)) :
    Calls Yba.prog 16 #[.agg #[], .slice (some ⟨g, o, none⟩) n c] w fun e w' => e = .returned (.int .u16 (Lib.beNat [b0, b1])) ∧ Below w.heap.size w w' := Any.binary_BE_Uint16 Yba.laysBin36 g o n c b0 b1 w hn c0 c1
open Go.RowKit in
/-- binary.LittleEndian.Uint64, ITS PREMISES 'open_ints'' CONCLUSION TO THE LETTER: a slice at WHATEVER address a, the numbers zs that its cells hold: THE NUMBER THAT THE FIRST 8 SPELL ('Lib.leZ'). (LAID: no walk: one application.) -/
theorem Yba.binary_LE_Uint64_z (a : Addr) (n c : Nat) (zs : List Int) (w : World) (hn : 8 ≤ n) (hl : 8 ≤ zs.length) (hcell : ∀ i, i < zs.length → w.cell? (a.add i) = some (.int .u8 (zs.getD i 0))) (hw : ∀ z ∈ zs, (Lit.int .u8 z).wf = true) :
    Calls Yba.prog 14 #[.agg #[], .slice (some a) n c] w fun e w' => e = .returned (.int .u64 (Lib.leZ (zs.take 8))) ∧ Below w.heap.size w w' := Any.binary_LE_Uint64_z Yba.laysBin33 a n c zs w hn hl hcell hw
open Go.RowKit in
/-- binary.BigEndian.Uint16, ITS PREMISES 'open_ints'' CONCLUSION TO THE LETTER: a slice at WHATEVER address a, the numbers zs that its cells hold: THE NUMBER THAT THE FIRST 2 SPELL ('Lib.beZ'). (LAID: no walk: one application.) -/
theorem Yba.binary_BE_Uint16_z (a : Addr) (n c : Nat) (zs : List Int) (w : World) (hn : 2 ≤ n) (hl : 2 ≤ zs.length) (hcell : ∀ i, i < zs.length → w.cell? (a.add i) = some (.int .u8 (zs.getD i 0))) (hw : ∀ z ∈ zs, (Lit.int .u8 z).wf = true) :
    Calls Yba.prog 16 #[.agg #[], .slice (some a) n c] w fun e w' => e = .returned (.int .u16 (Lib.beZ (zs.take 2))) ∧ Below w.heap.size w w' := Any.binary_BE_Uint16_z Yba.laysBin36 a n c zs w hn hl hcell hw
def Yba.lays25_ren : Go.Shelf.Ren := ⟨fun | 25 => 13 | n => n, fun | 22 => 29 | n => n, fun | n => n⟩
theorem Yba.lays25 : Go.Proofs.Lays7.n25 Yba.prog Yba.lays25_ren := {
  mixed := by kernel_rfl
  f25 := Yba.func13.trans (congrArg some (by kernel_rfl))
  t22 := Yba.underlying29
  a22 := Yba.isAgg29
  z22 := Yba.sizeOf29
  v22 := Yba.zeroValue29
  i22 := by kernel_rfl }
end Go.Proofs
