/- The shelf's contracts for math/bits.Len64 and encoding/binary's bigEndian.Uint64, laid at this program in plain words (written by the kit's lay-shelf and lay-plain tools). -/
import Derived.Shelf.Strconv.Itoa0
import Derived.Ground.MnProg
import Derived.Shelf.Bin.BEUint64
import Derived.Shelf.Bin.BEUint64Panics
import Derived.Shelf.Bin.ReadersZ
import Derived.Test.Qxb6614317aFmtProg
namespace Go.Proofs
open Go.Shelf
def Tryf.lays129_ren : Go.Shelf.Ren := ⟨fun | 129 => 35 | n => n, fun | 53 => 27 | 3 => 3 | 4 => 4 | 46 => 35 | 5 => 5 | 9 => 9 | n => n, fun | n => n⟩
theorem Tryf.lays129 : Go.Proofs.Lays.n129 Tryf.prog Tryf.lays129_ren := {
  mixed := by kernel_rfl
  f129 := Tryf.func35.trans (congrArg some (by kernel_rfl))
  t3 := Tryf.underlying3
  a3 := Tryf.isAgg3
  z3 := Tryf.sizeOf3
  v3 := Tryf.zeroValue3
  t4 := Tryf.underlying4
  a4 := Tryf.isAgg4
  z4 := Tryf.sizeOf4
  v4 := Tryf.zeroValue4
  t5 := Tryf.underlying5
  a5 := Tryf.isAgg5
  z5 := Tryf.sizeOf5
  v5 := Tryf.zeroValue5
  t9 := Tryf.underlying9
  a9 := Tryf.isAgg9
  z9 := Tryf.sizeOf9
  v9 := Tryf.zeroValue9
  t46 := Tryf.underlying35
  a46 := Tryf.isAgg35
  z46 := Tryf.sizeOf35
  v46 := Tryf.zeroValue35
  t53 := Tryf.underlying27
  a53 := Tryf.isAgg27
  z53 := Tryf.sizeOf27
  v53 := Tryf.zeroValue27 }
/-- bits.Len64: "Len64 returns the minimum number of bits required to represent x; the result is 0 for x == 0.": IT RETURNS 'Lib.bitLen x'; the world is as it was. ('h0', 'h1': x is a uint64.) (LAID: no walk: one application.) -/
theorem Tryf.bits_Len64 (x : Int) (w : World) (h0 : 0 ≤ x) (h1 : x ≤ 18446744073709551615) :
    Calls Tryf.prog 35 #[.int .u64 x] w fun e w' => e = .returned (.int .i64 (Lib.bitLen x.toNat)) ∧ w' = w := Any.bits_Len64 Tryf.lays129 x w h0 h1
def Tryf.laysBin42_ren : Go.Shelf.Ren := ⟨fun | 42 => 39 | n => n, fun | 37 => 58 | 22 => 22 | 33 => 27 | 0 => 0 | 5 => 5 | 45 => 35 | n => n, fun | n => n⟩
theorem Tryf.laysBin42 : Go.Proofs.LaysBin.n42 Tryf.prog Tryf.laysBin42_ren := {
  mixed := by kernel_rfl
  f42 := Tryf.func39.trans (congrArg some (by kernel_rfl))
  t0 := Tryf.underlying0
  a0 := Tryf.isAgg0
  z0 := Tryf.sizeOf0
  v0 := Tryf.zeroValue0
  i0 := by kernel_rfl
  t5 := Tryf.underlying5
  a5 := Tryf.isAgg5
  z5 := Tryf.sizeOf5
  v5 := Tryf.zeroValue5
  i5 := by kernel_rfl
  t22 := Tryf.underlying22
  a22 := Tryf.isAgg22
  z22 := Tryf.sizeOf22
  v22 := Tryf.zeroValue22
  i22 := by kernel_rfl
  t33 := Tryf.underlying27
  a33 := Tryf.isAgg27
  z33 := Tryf.sizeOf27
  v33 := Tryf.zeroValue27
  i33 := by kernel_rfl
  t37 := Tryf.underlying58
  a37 := Tryf.isAgg58
  z37 := Tryf.sizeOf58
  v37 := Tryf.zeroValue58
  i37 := by kernel_rfl
  t45 := Tryf.underlying35
  a45 := Tryf.isAgg35
  z45 := Tryf.sizeOf35
  v45 := Tryf.zeroValue35
  i45 := by kernel_rfl }
open Go.RowKit in
/-- binary.BigEndian.Uint64: "Uint64 returns the uint64 representation of b[0:8].": THE NUMBER THAT THE FIRST 8 BYTES SPELL, the greatest byte first ('Lib.beNat'). Of what was there nothing has turned (the receiver, an empty struct, is laid in a new block without cells; the statement's order is drawn). (LAID: no walk: one application.) -/
theorem Tryf.binary_BE_Uint64 (g o n c : Nat) (b0 b1 b2 b3 b4 b5 b6 b7 : UInt8) (w : World) (hn : 8 ≤ n) (c0 : w.cell? ⟨g, o, none⟩ = some (.int .u8 b0.toNat)) (c1 : w.cell? ⟨g, o + 1, none⟩ = some (.int .u8 b1.toNat)) (c2 : w.cell? ⟨g, o + 2, none⟩ = some (.int .u8 b2.toNat)) (c3 : w.cell? ⟨g, o + 3, none⟩ = some (.int .u8 b3.toNat)) (c4 : w.cell? ⟨g, o + 4, none⟩ = some (.int .u8 b4.toNat)) (c5 : w.cell? ⟨g, o + 5, none⟩ = some (.int .u8 b5.toNat)) (c6 : w.cell? ⟨g, o + 6, none⟩ = some (.int .u8 b6.toNat)) (c7 : w.cell? ⟨g, o + 7, none⟩ = some (.int .u8 b7.toNat)) :
    Calls Tryf.prog 39 #[.agg #[], .slice (some ⟨g, o, none⟩) n c] w fun e w' => e = .returned (.int .u64 (Lib.beNat [b0, b1, b2, b3, b4, b5, b6, b7])) ∧ Below w.heap.size w w' := Any.binary_BE_Uint64 Tryf.laysBin42 g o n c b0 b1 b2 b3 b4 b5 b6 b7 w hn c0 c1 c2 c3 c4 c5 c6 c7
open Go.RowKit in
/-- binary.BigEndian.Uint64, b SHORTER THAN 8: IT PANICS: Go's 'runtime error: index out of range [7] with length n' ('Lib.boundsPanicked'). THE WORLD: the receiver's new block without cells, and the draw of the panic's flag. (LAID: no walk: one application.) -/
theorem Tryf.binary_BE_Uint64_panics (ao : Option Addr) (n c : Nat) (w : World) (hn : n < 8) (hnil : ao = none → n = 0) :
    Calls Tryf.prog 39 #[.agg #[], .slice ao n c] w fun e w' => Lib.boundsPanicked Tryf.prog 7 n e ∧ w' = (w.alloc (.cells #[] 58)).drew := Any.binary_BE_Uint64_panics Tryf.laysBin42 ao n c w hn hnil
open Go.RowKit in
/-- binary.BigEndian.Uint64, ITS PREMISES 'open_ints'' CONCLUSION TO THE LETTER: a slice at WHATEVER address a, the numbers zs that its cells hold: THE NUMBER THAT THE FIRST 8 SPELL ('Lib.beZ'). (LAID: no walk: one application.) -/
theorem Tryf.binary_BE_Uint64_z (a : Addr) (n c : Nat) (zs : List Int) (w : World) (hn : 8 ≤ n) (hl : 8 ≤ zs.length) (hcell : ∀ i, i < zs.length → w.cell? (a.add i) = some (.int .u8 (zs.getD i 0))) (hw : ∀ z ∈ zs, (Lit.int .u8 z).wf = true) :
    Calls Tryf.prog 39 #[.agg #[], .slice (some a) n c] w fun e w' => e = .returned (.int .u64 (Lib.beZ (zs.take 8))) ∧ Below w.heap.size w w' := Any.binary_BE_Uint64_z Tryf.laysBin42 a n c zs w hn hl hcell hw
end Go.Proofs
