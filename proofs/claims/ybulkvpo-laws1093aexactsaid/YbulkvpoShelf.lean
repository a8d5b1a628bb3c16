/-
  DERIVED: THE SHELF's CONTRACTS AT THIS DUMP, IN PLAIN WORDS (tools/lay-plain.mjs out of 'YbaShelf.lean', which tools/lay-shelf.mjs wrote): THE SAME DECLARATIONS UNDER THE SAME NAMES: 'import', 'namespace', 'open', 'def', 'theorem' AND NOTHING ELSE: no command of the shelf's: FOR A HAND-IN. Each laying: the table of numbers ('.._ren') and one theorem, a field a fact of the dump's own or the kernel's comparison; each contract: ONE APPLICATION.
-/
import Derived.Ground.MnProg
import Derived.Shelf.Bin.BEUint64
import Derived.Shelf.Bin.BEAppendUint64
import Derived.Shelf.Bin.BEAppendUint64Arg
import Derived.Test.YbulkvpoProg
namespace Go.Proofs
open Go.Shelf
def Yba.laysBin42_ren : Go.Shelf.Ren := ⟨fun | 42 => 7 | n => n, fun | 37 => 32 | 22 => 27 | 33 => 22 | 0 => 0 | 5 => 5 | 45 => 35 | n => n, fun | n => n⟩
theorem Yba.laysBin42 : Go.Proofs.LaysBin.n42 Yba.prog Yba.laysBin42_ren := {
  mixed := by kernel_rfl
  f42 := Yba.func7.trans (congrArg some (by kernel_rfl))
  t0 := Yba.underlying0
  a0 := Yba.isAgg0
  z0 := Yba.sizeOf0
  v0 := Yba.zeroValue0
  i0 := by kernel_rfl
  t5 := Yba.underlying5
  a5 := Yba.isAgg5
  z5 := Yba.sizeOf5
  v5 := Yba.zeroValue5
  i5 := by kernel_rfl
  t22 := Yba.underlying27
  a22 := Yba.isAgg27
  z22 := Yba.sizeOf27
  v22 := Yba.zeroValue27
  i22 := by kernel_rfl
  t33 := Yba.underlying22
  a33 := Yba.isAgg22
  z33 := Yba.sizeOf22
  v33 := Yba.zeroValue22
  i33 := by kernel_rfl
  t37 := Yba.underlying32
  a37 := Yba.isAgg32
  z37 := Yba.sizeOf32
  v37 := Yba.zeroValue32
  i37 := by kernel_rfl
  t45 := Yba.underlying35
  a45 := Yba.isAgg35
  z45 := Yba.sizeOf35
  v45 := Yba.zeroValue35
  i45 := by kernel_rfl }
open Go.RowKit in
/-- binary.BigEndian.Uint64: "Uint64 returns the uint64 representation of b[0:8].": THE NUMBER THAT THE FIRST 8 BYTES SPELL, the greatest byte first ('Lib.beNat'). Of what was there nothing has turned (the receiver, an empty struct, is laid in a new block without cells; the statement's order is drawn). (LAID: no walk: one application.) -/
theorem Yba.binary_BE_Uint64 (g o n c : Nat) (b0 b1 b2 b3 b4 b5 b6 b7 : UInt8) (w : World) (hn : 8 ≤ n) (c0 : w.cell? ⟨g, o, none⟩ = some (.int .u8 b0.toNat)) (c1 : w.cell? ⟨g, o + 1, none⟩ = some (.int .u8 b1.toNat)) (c2 : w.cell? ⟨g, o + 2, none⟩ = some (.int .u8 b2.toNat)) (c3 : w.cell? ⟨g, o + 3, none⟩ = some (.int .u8 b3.toNat)) (c4 : w.cell? ⟨g, o + 4, none⟩ = some (.int .u8 b4.toNat)) (c5 : w.cell? ⟨g, o + 5, none⟩ = some (.int .u8 b5.toNat)) (c6 : w.cell? ⟨g, o + 6, none⟩ = some (.int .u8 b6.toNat)) (c7 : w.cell? ⟨g, o + 7, none⟩ = some (.int .u8 b7.toNat)) :
    Calls Yba.prog 7 #[.agg #[], .slice (some ⟨g, o, none⟩) n c] w fun e w' => e = .returned (.int .u64 (Lib.beNat [b0, b1, b2, b3, b4, b5, b6, b7])) ∧ Below w.heap.size w w' := Any.binary_BE_Uint64 Yba.laysBin42 g o n c b0 b1 b2 b3 b4 b5 b6 b7 w hn c0 c1 c2 c3 c4 c5 c6 c7
def Yba.laysBin44_ren : Go.Shelf.Ren := ⟨fun | 44 => 8 | n => n, fun | 37 => 32 | 22 => 27 | 33 => 22 | 0 => 0 | 45 => 35 | 5 => 5 | n => n, fun | n => n⟩
theorem Yba.laysBin44 : Go.Proofs.LaysBin.n44 Yba.prog Yba.laysBin44_ren := {
  mixed := by kernel_rfl
  f44 := Yba.func8.trans (congrArg some (by kernel_rfl))
  t0 := Yba.underlying0
  a0 := Yba.isAgg0
  z0 := Yba.sizeOf0
  v0 := Yba.zeroValue0
  i0 := by kernel_rfl
  t5 := Yba.underlying5
  a5 := Yba.isAgg5
  z5 := Yba.sizeOf5
  v5 := Yba.zeroValue5
  i5 := by kernel_rfl
  t22 := Yba.underlying27
  a22 := Yba.isAgg27
  z22 := Yba.sizeOf27
  v22 := Yba.zeroValue27
  i22 := by kernel_rfl
  t33 := Yba.underlying22
  a33 := Yba.isAgg22
  z33 := Yba.sizeOf22
  v33 := Yba.zeroValue22
  i33 := by kernel_rfl
  t37 := Yba.underlying32
  a37 := Yba.isAgg32
  z37 := Yba.sizeOf32
  v37 := Yba.zeroValue32
  i37 := by kernel_rfl
  t45 := Yba.underlying35
  a45 := Yba.isAgg35
  z45 := Yba.sizeOf35
  v45 := Yba.zeroValue35
  i45 := by kernel_rfl }
open Go.RowKit in
/-- binary.BigEndian.AppendUint64: "AppendUint64 appends the bytes of v to b and returns the appended slice.": WHAT COMES BACK OWNS b's CELLS AND, BEHIND THEM, v's 8 BYTES, the greatest first ('Lib.beBytes 8 v'). Below the call's own blocks nothing has turned. (LAID: no walk: one application.) -/
theorem Yba.binary_BE_AppendUint64 (B n v : Nat) (hv : v < 18446744073709551616) (sv : Value) (xs : List Value) (w : World) (hown : w.ownsRow B 5 1 sv n xs) (hBw : B ≤ w.heap.size) (hlim : n + 8 ≤ 140737488355328) :
    Calls Yba.prog 8 #[.agg #[], sv, .int .u64 v] w fun e w' => ∃ v', e = .returned v' ∧ w'.ownsRow B 5 1 v' (n + 8) (xs ++ Lib.byteCells (Lib.beBytes 8 v)) ∧ Below B w w' := Any.binary_BE_AppendUint64 Yba.laysBin44 B n v hv sv xs w hown hBw hlim
open Go.RowKit in
/-- binary.BigEndian.AppendUint64, b A SLICE THAT CAME IN, holding 'olds': WHERE n + 8 ≤ cap: THE SAME BASE, 8 LONGER; v's bytes are laid in b's spare capacity ('World.setCells'): WHOEVER SHARES THAT MEMORY SEES THEM. WHERE NOT: a slice that owns 'olds' and v's bytes in a new row; of what was there nothing has turned. (LAID: no walk: one application.) -/
theorem Yba.binary_BE_AppendUint64_arg (g o n cap v : Nat) (hv : v < 18446744073709551616) (olds : List Value) (w : World) (hlo : olds.length = n) (holds : ∀ j u, olds[j]? = some u → w.cell? ⟨g, o + j, none⟩ = some u) (hspare : n + 8 ≤ cap → ∀ j, j < 8 → (w.cell? ⟨g, o + n + j, none⟩).isSome = true ∧ w.frozen? ⟨g, o + n + j, none⟩ = false) (hlim : n + 8 ≤ 140737488355328) :
    Calls Yba.prog 8 #[.agg #[], .slice (some ⟨g, o, none⟩) n cap, .int .u64 v] w fun e w' =>
      (n + 8 ≤ cap ∧ e = .returned (.slice (some ⟨g, o, none⟩) (n + 8) cap) ∧ w' = ((w.alloc (.cells #[] 32)).alloc (.cells (Lib.byteCells (Lib.beBytes 8 v)).toArray 5)).setCells g (o + n) (Lib.byteCells (Lib.beBytes 8 v))) ∨
      (cap < n + 8 ∧ ∃ v', e = .returned v' ∧ w'.ownsRow (w.heap.size + 2) 5 1 v' (n + 8) (olds ++ Lib.byteCells (Lib.beBytes 8 v)) ∧ Below w.heap.size w w') := Any.binary_BE_AppendUint64_arg Yba.laysBin44 g o n cap v hv olds w hlo holds hspare hlim
end Go.Proofs
