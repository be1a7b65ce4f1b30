/-
  DERIVED: THE SHELF's CONTRACTS AT THIS DUMP, IN PLAIN WORDS (tools/lay-plain.mjs out of 'Qxb6616667aDoorShelfT.lean', which tools/lay-shelf.mjs wrote): THE SAME DECLARATIONS UNDER THE SAME NAMES: 'import', 'namespace', 'open', 'def', 'theorem' AND NOTHING ELSE: no command of the shelf's: FOR A HAND-IN. Each laying: the table of numbers ('.._ren') and one theorem, a field a fact of the dump's own or the kernel's comparison; each contract: ONE APPLICATION.
-/
import Derived.Ground.MnProg
import Derived.Shelf.Bin.LEUint64
import Derived.Shelf.Bin.ReadersZ
import Derived.Shelf.Lays7
import Derived.Shelf.Spec.TrailingZeros
import Derived.Test.Qxb6616667aDoorProg
namespace Go.Proofs
open Go.Shelf
def Tryd.laysBin33_ren : Go.Shelf.Ren := ⟨fun | 33 => 28 | n => n, fun | 25 => 57 | 22 => 22 | 33 => 40 | 0 => 0 | 5 => 5 | 45 => 63 | n => n, fun | n => n⟩
theorem Tryd.laysBin33 : Go.Proofs.LaysBin.n33 Tryd.prog Tryd.laysBin33_ren := {
  mixed := by kernel_rfl
  f33 := Tryd.func28.trans (congrArg some (by kernel_rfl))
  t0 := Tryd.underlying0
  a0 := Tryd.isAgg0
  z0 := Tryd.sizeOf0
  v0 := Tryd.zeroValue0
  i0 := by kernel_rfl
  t5 := Tryd.underlying5
  a5 := Tryd.isAgg5
  z5 := Tryd.sizeOf5
  v5 := Tryd.zeroValue5
  i5 := by kernel_rfl
  t22 := Tryd.underlying22
  a22 := Tryd.isAgg22
  z22 := Tryd.sizeOf22
  v22 := Tryd.zeroValue22
  i22 := by kernel_rfl
  t25 := Tryd.underlying57
  a25 := Tryd.isAgg57
  z25 := Tryd.sizeOf57
  v25 := Tryd.zeroValue57
  i25 := by kernel_rfl
  t33 := Tryd.underlying40
  a33 := Tryd.isAgg40
  z33 := Tryd.sizeOf40
  v33 := Tryd.zeroValue40
  i33 := by kernel_rfl
  t45 := Tryd.underlying63
  a45 := Tryd.isAgg63
  z45 := Tryd.sizeOf63
  v45 := Tryd.zeroValue63
  i45 := by kernel_rfl }
open Go.RowKit in
/-- binary.LittleEndian.Uint64: "Uint64 returns the uint64 representation of b[0:8].": THE NUMBER THAT THE FIRST 8 BYTES SPELL, the least byte first ('Lib.leNat'). Of what was there nothing has turned (the receiver, an empty struct, is laid in a new block without cells; the statement's order is drawn). (LAID: no walk: one application.) -/
theorem Tryd.binary_LE_Uint64 (g o n c : Nat) (b0 b1 b2 b3 b4 b5 b6 b7 : UInt8) (w : World) (hn : 8 ≤ n) (c0 : w.cell? ⟨g, o, none⟩ = some (.int .u8 b0.toNat)) (c1 : w.cell? ⟨g, o + 1, none⟩ = some (.int .u8 b1.toNat)) (c2 : w.cell? ⟨g, o + 2, none⟩ = some (.int .u8 b2.toNat)) (c3 : w.cell? ⟨g, o + 3, none⟩ = some (.int .u8 b3.toNat)) (c4 : w.cell? ⟨g, o + 4, none⟩ = some (.int .u8 b4.toNat)) (c5 : w.cell? ⟨g, o + 5, none⟩ = some (.int .u8 b5.toNat)) (c6 : w.cell? ⟨g, o + 6, none⟩ = some (.int .u8 b6.toNat)) (c7 : w.cell? ⟨g, o + 7, none⟩ = some (.int .u8 b7.toNat)) :
    Calls Tryd.prog 28 #[.agg #[], .slice (some ⟨g, o, none⟩) n c] w fun e w' => e = .returned (.int .u64 (Lib.leNat [b0, b1, b2, b3, b4, b5, b6, b7])) ∧ Below w.heap.size w w' := Any.binary_LE_Uint64 Tryd.laysBin33 g o n c b0 b1 b2 b3 b4 b5 b6 b7 w hn c0 c1 c2 c3 c4 c5 c6 c7
open Go.RowKit in
/-- binary.LittleEndian.Uint64, ITS PREMISES 'open_ints'' CONCLUSION TO THE LETTER: a slice at WHATEVER address a, the numbers zs that its cells hold: THE NUMBER THAT THE FIRST 8 SPELL ('Lib.leZ'). (LAID: no walk: one application.) -/
theorem Tryd.binary_LE_Uint64_z (a : Addr) (n c : Nat) (zs : List Int) (w : World) (hn : 8 ≤ n) (hl : 8 ≤ zs.length) (hcell : ∀ i, i < zs.length → w.cell? (a.add i) = some (.int .u8 (zs.getD i 0))) (hw : ∀ z ∈ zs, (Lit.int .u8 z).wf = true) :
    Calls Tryd.prog 28 #[.agg #[], .slice (some a) n c] w fun e w' => e = .returned (.int .u64 (Lib.leZ (zs.take 8))) ∧ Below w.heap.size w w' := Any.binary_LE_Uint64_z Tryd.laysBin33 a n c zs w hn hl hcell hw
def Tryd.lays7x29_ren : Go.Shelf.Ren := ⟨fun | 29 => 31 | n => n, fun | 22 => 40 | 3 => 3 | 4 => 4 | 25 => 63 | 54 => 64 | 0 => 0 | 5 => 5 | n => n, fun | 1 => 1 | n => n⟩
theorem Tryd.lays7x29 : Go.Proofs.Lays7.n29 Tryd.prog Tryd.lays7x29_ren := {
  mixed := by kernel_rfl
  f29 := Tryd.func31.trans (congrArg some (by kernel_rfl))
  t0 := Tryd.underlying0
  a0 := Tryd.isAgg0
  z0 := Tryd.sizeOf0
  v0 := Tryd.zeroValue0
  i0 := by kernel_rfl
  t3 := Tryd.underlying3
  a3 := Tryd.isAgg3
  z3 := Tryd.sizeOf3
  v3 := Tryd.zeroValue3
  i3 := by kernel_rfl
  t4 := Tryd.underlying4
  a4 := Tryd.isAgg4
  z4 := Tryd.sizeOf4
  v4 := Tryd.zeroValue4
  i4 := by kernel_rfl
  t5 := Tryd.underlying5
  a5 := Tryd.isAgg5
  z5 := Tryd.sizeOf5
  v5 := Tryd.zeroValue5
  i5 := by kernel_rfl
  t22 := Tryd.underlying40
  a22 := Tryd.isAgg40
  z22 := Tryd.sizeOf40
  v22 := Tryd.zeroValue40
  i22 := by kernel_rfl
  t25 := Tryd.underlying63
  a25 := Tryd.isAgg63
  z25 := Tryd.sizeOf63
  v25 := Tryd.zeroValue63
  i25 := by kernel_rfl
  t54 := Tryd.underlying64
  a54 := Tryd.isAgg64
  z54 := Tryd.sizeOf64
  g1 := by kernel_rfl }
open Go.RowKit in
theorem Tryd.bits_TrailingZeros64 (x : Nat) (hx : x < 18446744073709551616) (w : World) (hT : x ≠ 0 → TabAt 1 Lib.deBruijn64tab w) :
    Calls Tryd.prog 31 #[.int .u64 x] w fun e w' => e = .returned (.int .i64 (Lib.ctz 64 x)) ∧ w' = w := Any7.bits_TrailingZeros64 Tryd.lays7x29 x hx w hT
end Go.Proofs
