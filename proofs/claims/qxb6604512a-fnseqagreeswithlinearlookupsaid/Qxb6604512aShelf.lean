/-
  DERIVED: THE SHELF's CONTRACTS AT THIS DUMP, IN PLAIN WORDS (tools/lay-plain.mjs out of 'TryShelf.lean', which tools/lay-shelf.mjs wrote): THE SAME DECLARATIONS UNDER THE SAME NAMES: 'import', 'namespace', 'open', 'def', 'theorem' AND NOTHING ELSE: no command of the shelf's: FOR A HAND-IN. Each laying: the table of numbers ('.._ren') and one theorem, a field a fact of the dump's own or the kernel's comparison; each contract: ONE APPLICATION.
-/
import Derived.Ground.MnProg
import Derived.Shelf.Bin.BEAppendUint16
import Derived.Shelf.Bin.BEAppendUint32
import Derived.Shelf.Bin.BEAppendUint64
import Derived.Test.Qxb6604512aProg
namespace Go.Proofs
open Go.Shelf
def Try.laysBin38_ren : Go.Shelf.Ren := ⟨fun | 38 => 64 | n => n, fun | 37 => 106 | 22 => 45 | 23 => 108 | 0 => 0 | 45 => 100 | 5 => 5 | n => n, fun | n => n⟩
theorem Try.laysBin38 : Go.Proofs.LaysBin.n38 Try.prog Try.laysBin38_ren := {
  mixed := by kernel_rfl
  f38 := Try.func64.trans (congrArg some (by kernel_rfl))
  t0 := Try.underlying0
  a0 := Try.isAgg0
  z0 := Try.sizeOf0
  v0 := Try.zeroValue0
  i0 := by kernel_rfl
  t5 := Try.underlying5
  a5 := Try.isAgg5
  z5 := Try.sizeOf5
  v5 := Try.zeroValue5
  i5 := by kernel_rfl
  t22 := Try.underlying45
  a22 := Try.isAgg45
  z22 := Try.sizeOf45
  v22 := Try.zeroValue45
  i22 := by kernel_rfl
  t23 := Try.underlying108
  a23 := Try.isAgg108
  z23 := Try.sizeOf108
  v23 := Try.zeroValue108
  i23 := by kernel_rfl
  t37 := Try.underlying106
  a37 := Try.isAgg106
  z37 := Try.sizeOf106
  v37 := Try.zeroValue106
  i37 := by kernel_rfl
  t45 := Try.underlying100
  a45 := Try.isAgg100
  z45 := Try.sizeOf100
  v45 := Try.zeroValue100
  i45 := by kernel_rfl }
open Go.RowKit in
/-- binary.BigEndian.AppendUint16: "AppendUint16 appends the bytes of v to b and returns the appended slice.": WHAT COMES BACK OWNS b's CELLS AND, BEHIND THEM, v's 2 BYTES, the greatest first ('Lib.beBytes 2 v'). Below the call's own blocks nothing has turned. (LAID: no walk: one application.) -/
theorem Try.binary_BE_AppendUint16 (B n v : Nat) (hv : v < 65536) (sv : Value) (xs : List Value) (w : World) (hown : w.ownsRow B 5 1 sv n xs) (hBw : B ≤ w.heap.size) (hlim : n + 2 ≤ 140737488355328) :
    Calls Try.prog 64 #[.agg #[], sv, .int .u16 v] w fun e w' => ∃ v', e = .returned v' ∧ w'.ownsRow B 5 1 v' (n + 2) (xs ++ Lib.byteCells (Lib.beBytes 2 v)) ∧ Below B w w' := Any.binary_BE_AppendUint16 Try.laysBin38 B n v hv sv xs w hown hBw hlim
def Try.laysBin41_ren : Go.Shelf.Ren := ⟨fun | 41 => 65 | n => n, fun | 37 => 106 | 22 => 45 | 29 => 110 | 0 => 0 | 45 => 100 | 5 => 5 | n => n, fun | n => n⟩
theorem Try.laysBin41 : Go.Proofs.LaysBin.n41 Try.prog Try.laysBin41_ren := {
  mixed := by kernel_rfl
  f41 := Try.func65.trans (congrArg some (by kernel_rfl))
  t0 := Try.underlying0
  a0 := Try.isAgg0
  z0 := Try.sizeOf0
  v0 := Try.zeroValue0
  i0 := by kernel_rfl
  t5 := Try.underlying5
  a5 := Try.isAgg5
  z5 := Try.sizeOf5
  v5 := Try.zeroValue5
  i5 := by kernel_rfl
  t22 := Try.underlying45
  a22 := Try.isAgg45
  z22 := Try.sizeOf45
  v22 := Try.zeroValue45
  i22 := by kernel_rfl
  t29 := Try.underlying110
  a29 := Try.isAgg110
  z29 := Try.sizeOf110
  v29 := Try.zeroValue110
  i29 := by kernel_rfl
  t37 := Try.underlying106
  a37 := Try.isAgg106
  z37 := Try.sizeOf106
  v37 := Try.zeroValue106
  i37 := by kernel_rfl
  t45 := Try.underlying100
  a45 := Try.isAgg100
  z45 := Try.sizeOf100
  v45 := Try.zeroValue100
  i45 := by kernel_rfl }
open Go.RowKit in
/-- binary.BigEndian.AppendUint32: "AppendUint32 appends the bytes of v to b and returns the appended slice.": WHAT COMES BACK OWNS b's CELLS AND, BEHIND THEM, v's 4 BYTES, the greatest first ('Lib.beBytes 4 v'). Below the call's own blocks nothing has turned. (LAID: no walk: one application.) -/
theorem Try.binary_BE_AppendUint32 (B n v : Nat) (hv : v < 4294967296) (sv : Value) (xs : List Value) (w : World) (hown : w.ownsRow B 5 1 sv n xs) (hBw : B ≤ w.heap.size) (hlim : n + 4 ≤ 140737488355328) :
    Calls Try.prog 65 #[.agg #[], sv, .int .u32 v] w fun e w' => ∃ v', e = .returned v' ∧ w'.ownsRow B 5 1 v' (n + 4) (xs ++ Lib.byteCells (Lib.beBytes 4 v)) ∧ Below B w w' := Any.binary_BE_AppendUint32 Try.laysBin41 B n v hv sv xs w hown hBw hlim
def Try.laysBin44_ren : Go.Shelf.Ren := ⟨fun | 44 => 66 | n => n, fun | 37 => 106 | 22 => 45 | 33 => 24 | 0 => 0 | 45 => 100 | 5 => 5 | n => n, fun | n => n⟩
theorem Try.laysBin44 : Go.Proofs.LaysBin.n44 Try.prog Try.laysBin44_ren := {
  mixed := by kernel_rfl
  f44 := Try.func66.trans (congrArg some (by kernel_rfl))
  t0 := Try.underlying0
  a0 := Try.isAgg0
  z0 := Try.sizeOf0
  v0 := Try.zeroValue0
  i0 := by kernel_rfl
  t5 := Try.underlying5
  a5 := Try.isAgg5
  z5 := Try.sizeOf5
  v5 := Try.zeroValue5
  i5 := by kernel_rfl
  t22 := Try.underlying45
  a22 := Try.isAgg45
  z22 := Try.sizeOf45
  v22 := Try.zeroValue45
  i22 := by kernel_rfl
  t33 := Try.underlying24
  a33 := Try.isAgg24
  z33 := Try.sizeOf24
  v33 := Try.zeroValue24
  i33 := by kernel_rfl
  t37 := Try.underlying106
  a37 := Try.isAgg106
  z37 := Try.sizeOf106
  v37 := Try.zeroValue106
  i37 := by kernel_rfl
  t45 := Try.underlying100
  a45 := Try.isAgg100
  z45 := Try.sizeOf100
  v45 := Try.zeroValue100
  i45 := by kernel_rfl }
open Go.RowKit in
/-- binary.BigEndian.AppendUint64: "AppendUint64 appends the bytes of v to b and returns the appended slice.": WHAT COMES BACK OWNS b's CELLS AND, BEHIND THEM, v's 8 BYTES, the greatest first ('Lib.beBytes 8 v'). Below the call's own blocks nothing has turned. (LAID: no walk: one application.) -/
theorem Try.binary_BE_AppendUint64 (B n v : Nat) (hv : v < 18446744073709551616) (sv : Value) (xs : List Value) (w : World) (hown : w.ownsRow B 5 1 sv n xs) (hBw : B ≤ w.heap.size) (hlim : n + 8 ≤ 140737488355328) :
    Calls Try.prog 66 #[.agg #[], sv, .int .u64 v] w fun e w' => ∃ v', e = .returned v' ∧ w'.ownsRow B 5 1 v' (n + 8) (xs ++ Lib.byteCells (Lib.beBytes 8 v)) ∧ Below B w w' := Any.binary_BE_AppendUint64 Try.laysBin44 B n v hv sv xs w hown hBw hlim
end Go.Proofs
