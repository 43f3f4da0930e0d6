/-
  No cell of these rows narrows 'for every input' (looked for: loops, veiled, ifaces, maps, wideKeys, modest, calm, conditions, laid).
  DERIVED. THE GIVEN ROWS OF THIS SEAT. 6 by the template 'for every input the law returns true; each argument reads behind the call as it read before'; 0 by the template 'total and deterministic' (their statements: Qxb6614317aFmtTotals.lean).
  GIVEN WITH THE SEED: the statements are not yours to turn. If you find one false, say at which input.
  Laid BY PROGRAM, IN A SANDBOX (cutbox-rows.mjs): the forced cells as the released guide's own fill.sh prints them over the translation 7448e7cfd209d858… (all of the seat's roots in one cut). By AI agents, Wed Nov 11 2026. No macro, syntax, notation, axiom, sorry.
-/
import Derived.Test.Qxb6614317aFmtChecked
import GoSem.Claim
import GoSem.ClaimJoined
import GoSem.ClaimMapViews
import Derived.JoinedTies
import Derived.KernelRfl
namespace Go.Proofs.Qxb6614317aFmt
/- THE CELL 'sum', in the pinned program and in every row, IS THE sha256 OF THE DUMP (.gsa) THAT Qxb6614317aFmtProg.lean LOADS. Nothing in Lean hashes anything: it is a label: what it is worth is what the hold of that sum in a sandbox is worth. -/
noncomputable def Tryf.pinned : Pinned := { name := "qxb6614317afmt", sum := "7448e7cfd209d85831ecd13993bd77153b051953094f55a6c0d33cfad161577a", checked := Tryf.checked }
namespace Rows
def none {H : Type} : Left H := { results := [], args := [] }

/-- 'zzlaws_pkg_ngap_b1.FnDecoderBitsByOctetChunks': WHATEVER THE INPUT: true; the input reads as it did. -/
def fnDecoderBitsByOctetChunksSpec : ChangeSpec := { name := "fnDecoderBitsByOctetChunks", fn := fun _ => fun
  | [d1, d2, d3] => { results := [.lit (.bool true)], args := [d1, d2, d3] }
  | _ => none }
def fnDecoderBitsByOctetChunksRow : OpenClaim := { program := "qxb6614317afmt", sum := "7448e7cfd209d85831ecd13993bd77153b051953094f55a6c0d33cfad161577a", func := "example.com/fulmar/fulmar/zzlaws_pkg_ngap_b1.FnDecoderBitsByOctetChunks", spec := "fnDecoderBitsByOctetChunks", stops := ["fmt.errorf, its operands' methods called"], inPlace := ["fmt.errorf"], unfollowed := true, recurses := true, apart := false }
/-- NO THEOREM (fmt's text is open here; it may be false): for the released tool's asking of the row's closed facts alone. THE STATEMENT IS 'FnDecoderBitsByOctetChunksToldSaid' (Qxb6614317aFmtCards.lean). -/
def FnDecoderBitsByOctetChunksFormAsk : Prop := fnDecoderBitsByOctetChunksRow.holds Tryf.pinned (OpenSpec.ofChange fnDecoderBitsByOctetChunksSpec)

/-- ITS FALSE NEIGHBOUR: 'it returns false'. Refute it at one input. -/
def fnDecoderBitsByOctetChunksWrong : ChangeSpec := { name := "fnDecoderBitsByOctetChunks", fn := fun _ => fun
  | [d1, d2, d3] => { results := [.lit (.bool false)], args := [d1, d2, d3] }
  | _ => none }
def FnDecoderBitsByOctetChunksWrongFormAsk : Prop := fnDecoderBitsByOctetChunksRow.holds Tryf.pinned (OpenSpec.ofChange fnDecoderBitsByOctetChunksWrong)

/-- 'zzlaws_pkg_ngap_b1.FnDecoderBitsSplitAtAnyCut': WHATEVER THE INPUT: true; the input reads as it did. -/
def fnDecoderBitsSplitAtAnyCutSpec : ChangeSpec := { name := "fnDecoderBitsSplitAtAnyCut", fn := fun _ => fun
  | [d1, d2, d3, d4] => { results := [.lit (.bool true)], args := [d1, d2, d3, d4] }
  | _ => none }
def fnDecoderBitsSplitAtAnyCutRow : OpenClaim := { program := "qxb6614317afmt", sum := "7448e7cfd209d85831ecd13993bd77153b051953094f55a6c0d33cfad161577a", func := "example.com/fulmar/fulmar/zzlaws_pkg_ngap_b1.FnDecoderBitsSplitAtAnyCut", spec := "fnDecoderBitsSplitAtAnyCut", stops := ["fmt.errorf, its operands' methods called"], inPlace := ["fmt.errorf"], unfollowed := true, recurses := true, apart := false }
/-- NO THEOREM (fmt's text is open here; it may be false): for the released tool's asking of the row's closed facts alone. THE STATEMENT IS 'FnDecoderBitsSplitAtAnyCutToldSaid' (Qxb6614317aFmtCards.lean). -/
def FnDecoderBitsSplitAtAnyCutFormAsk : Prop := fnDecoderBitsSplitAtAnyCutRow.holds Tryf.pinned (OpenSpec.ofChange fnDecoderBitsSplitAtAnyCutSpec)

/-- ITS FALSE NEIGHBOUR: 'it returns false'. Refute it at one input. -/
def fnDecoderBitsSplitAtAnyCutWrong : ChangeSpec := { name := "fnDecoderBitsSplitAtAnyCut", fn := fun _ => fun
  | [d1, d2, d3, d4] => { results := [.lit (.bool false)], args := [d1, d2, d3, d4] }
  | _ => none }
def FnDecoderBitsSplitAtAnyCutWrongFormAsk : Prop := fnDecoderBitsSplitAtAnyCutRow.holds Tryf.pinned (OpenSpec.ofChange fnDecoderBitsSplitAtAnyCutWrong)

/-- 'zzlaws_pkg_ngap_b1.FnDecoderWithinShiftsWithLowerBound': WHATEVER THE INPUT: true; the input reads as it did. -/
def fnDecoderWithinShiftsWithLowerBoundSpec : ChangeSpec := { name := "fnDecoderWithinShiftsWithLowerBound", fn := fun _ => fun
  | [d1, d2, d3, d4] => { results := [.lit (.bool true)], args := [d1, d2, d3, d4] }
  | _ => none }
def fnDecoderWithinShiftsWithLowerBoundRow : OpenClaim := { program := "qxb6614317afmt", sum := "7448e7cfd209d85831ecd13993bd77153b051953094f55a6c0d33cfad161577a", func := "example.com/fulmar/fulmar/zzlaws_pkg_ngap_b1.FnDecoderWithinShiftsWithLowerBound", spec := "fnDecoderWithinShiftsWithLowerBound", stops := ["fmt.errorf, its operands' methods called"], inPlace := ["fmt.errorf"], unfollowed := true, recurses := true, apart := false }
/-- NO THEOREM (fmt's text is open here; it may be false): for the released tool's asking of the row's closed facts alone. THE STATEMENT IS 'FnDecoderWithinShiftsWithLowerBoundToldSaid' (Qxb6614317aFmtCards.lean). -/
def FnDecoderWithinShiftsWithLowerBoundFormAsk : Prop := fnDecoderWithinShiftsWithLowerBoundRow.holds Tryf.pinned (OpenSpec.ofChange fnDecoderWithinShiftsWithLowerBoundSpec)

/-- ITS FALSE NEIGHBOUR: 'it returns false'. Refute it at one input. -/
def fnDecoderWithinShiftsWithLowerBoundWrong : ChangeSpec := { name := "fnDecoderWithinShiftsWithLowerBound", fn := fun _ => fun
  | [d1, d2, d3, d4] => { results := [.lit (.bool false)], args := [d1, d2, d3, d4] }
  | _ => none }
def FnDecoderWithinShiftsWithLowerBoundWrongFormAsk : Prop := fnDecoderWithinShiftsWithLowerBoundRow.holds Tryf.pinned (OpenSpec.ofChange fnDecoderWithinShiftsWithLowerBoundWrong)

/-- 'zzlaws_pkg_ngap_b1.FnDecoderWithinReadsOnlyItsOwnBits': WHATEVER THE INPUT: true; the input reads as it did. -/
def fnDecoderWithinReadsOnlyItsOwnBitsSpec : ChangeSpec := { name := "fnDecoderWithinReadsOnlyItsOwnBits", fn := fun _ => fun
  | [d1, d2, d3, d4, d5, d6] => { results := [.lit (.bool true)], args := [d1, d2, d3, d4, d5, d6] }
  | _ => none }
def fnDecoderWithinReadsOnlyItsOwnBitsRow : OpenClaim := { program := "qxb6614317afmt", sum := "7448e7cfd209d85831ecd13993bd77153b051953094f55a6c0d33cfad161577a", func := "example.com/fulmar/fulmar/zzlaws_pkg_ngap_b1.FnDecoderWithinReadsOnlyItsOwnBits", spec := "fnDecoderWithinReadsOnlyItsOwnBits", stops := ["fmt.errorf, its operands' methods called"], inPlace := ["fmt.errorf"], unfollowed := true, recurses := true, apart := false }
/-- NO THEOREM (fmt's text is open here; it may be false): for the released tool's asking of the row's closed facts alone. THE STATEMENT IS 'FnDecoderWithinReadsOnlyItsOwnBitsToldSaid' (Qxb6614317aFmtCards.lean). -/
def FnDecoderWithinReadsOnlyItsOwnBitsFormAsk : Prop := fnDecoderWithinReadsOnlyItsOwnBitsRow.holds Tryf.pinned (OpenSpec.ofChange fnDecoderWithinReadsOnlyItsOwnBitsSpec)

/-- ITS FALSE NEIGHBOUR: 'it returns false'. Refute it at one input. -/
def fnDecoderWithinReadsOnlyItsOwnBitsWrong : ChangeSpec := { name := "fnDecoderWithinReadsOnlyItsOwnBits", fn := fun _ => fun
  | [d1, d2, d3, d4, d5, d6] => { results := [.lit (.bool false)], args := [d1, d2, d3, d4, d5, d6] }
  | _ => none }
def FnDecoderWithinReadsOnlyItsOwnBitsWrongFormAsk : Prop := fnDecoderWithinReadsOnlyItsOwnBitsRow.holds Tryf.pinned (OpenSpec.ofChange fnDecoderWithinReadsOnlyItsOwnBitsWrong)

/-- 'zzlaws_pkg_ngap_b1.FnDecoderEnumeratedRootAgreesWithWithin': WHATEVER THE INPUT: true; the input reads as it did. -/
def fnDecoderEnumeratedRootAgreesWithWithinSpec : ChangeSpec := { name := "fnDecoderEnumeratedRootAgreesWithWithin", fn := fun _ => fun
  | [d1, d2, d3] => { results := [.lit (.bool true)], args := [d1, d2, d3] }
  | _ => none }
def fnDecoderEnumeratedRootAgreesWithWithinRow : OpenClaim := { program := "qxb6614317afmt", sum := "7448e7cfd209d85831ecd13993bd77153b051953094f55a6c0d33cfad161577a", func := "example.com/fulmar/fulmar/zzlaws_pkg_ngap_b1.FnDecoderEnumeratedRootAgreesWithWithin", spec := "fnDecoderEnumeratedRootAgreesWithWithin", stops := ["fmt.errorf, its operands' methods called"], inPlace := ["fmt.errorf"], unfollowed := true, recurses := true, named := ["encoding/binary.BigEndian"], apart := false }
/-- NO THEOREM (fmt's text is open here; it may be false): for the released tool's asking of the row's closed facts alone. THE STATEMENT IS 'FnDecoderEnumeratedRootAgreesWithWithinToldSaid' (Qxb6614317aFmtCards.lean). -/
def FnDecoderEnumeratedRootAgreesWithWithinFormAsk : Prop := fnDecoderEnumeratedRootAgreesWithWithinRow.holds Tryf.pinned (OpenSpec.ofChange fnDecoderEnumeratedRootAgreesWithWithinSpec)

/-- ITS FALSE NEIGHBOUR: 'it returns false'. Refute it at one input. -/
def fnDecoderEnumeratedRootAgreesWithWithinWrong : ChangeSpec := { name := "fnDecoderEnumeratedRootAgreesWithWithin", fn := fun _ => fun
  | [d1, d2, d3] => { results := [.lit (.bool false)], args := [d1, d2, d3] }
  | _ => none }
def FnDecoderEnumeratedRootAgreesWithWithinWrongFormAsk : Prop := fnDecoderEnumeratedRootAgreesWithWithinRow.holds Tryf.pinned (OpenSpec.ofChange fnDecoderEnumeratedRootAgreesWithWithinWrong)

/-- 'zzlaws_pkg_ngap_b1.FnDecoderEnumeratedExtensionShiftsWithRoot': WHATEVER THE INPUT: true; the input reads as it did. -/
def fnDecoderEnumeratedExtensionShiftsWithRootSpec : ChangeSpec := { name := "fnDecoderEnumeratedExtensionShiftsWithRoot", fn := fun _ => fun
  | [d1, d2, d3, d4] => { results := [.lit (.bool true)], args := [d1, d2, d3, d4] }
  | _ => none }
def fnDecoderEnumeratedExtensionShiftsWithRootRow : OpenClaim := { program := "qxb6614317afmt", sum := "7448e7cfd209d85831ecd13993bd77153b051953094f55a6c0d33cfad161577a", func := "example.com/fulmar/fulmar/zzlaws_pkg_ngap_b1.FnDecoderEnumeratedExtensionShiftsWithRoot", spec := "fnDecoderEnumeratedExtensionShiftsWithRoot", stops := ["fmt.errorf, its operands' methods called"], inPlace := ["fmt.errorf"], unfollowed := true, recurses := true, named := ["encoding/binary.BigEndian"], apart := false }
/-- NO THEOREM (fmt's text is open here; it may be false): for the released tool's asking of the row's closed facts alone. THE STATEMENT IS 'FnDecoderEnumeratedExtensionShiftsWithRootToldSaid' (Qxb6614317aFmtCards.lean). -/
def FnDecoderEnumeratedExtensionShiftsWithRootFormAsk : Prop := fnDecoderEnumeratedExtensionShiftsWithRootRow.holds Tryf.pinned (OpenSpec.ofChange fnDecoderEnumeratedExtensionShiftsWithRootSpec)

/-- ITS FALSE NEIGHBOUR: 'it returns false'. Refute it at one input. -/
def fnDecoderEnumeratedExtensionShiftsWithRootWrong : ChangeSpec := { name := "fnDecoderEnumeratedExtensionShiftsWithRoot", fn := fun _ => fun
  | [d1, d2, d3, d4] => { results := [.lit (.bool false)], args := [d1, d2, d3, d4] }
  | _ => none }
def FnDecoderEnumeratedExtensionShiftsWithRootWrongFormAsk : Prop := fnDecoderEnumeratedExtensionShiftsWithRootRow.holds Tryf.pinned (OpenSpec.ofChange fnDecoderEnumeratedExtensionShiftsWithRootWrong)

end Rows
end Go.Proofs.Qxb6614317aFmt
