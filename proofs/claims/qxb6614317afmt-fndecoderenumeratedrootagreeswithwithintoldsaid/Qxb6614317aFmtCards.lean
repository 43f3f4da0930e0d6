/-
  DERIVED. GIVEN WITH THE SEED: THE CARDS: each row of Qxb6614317aFmtRows.lean that lists a variable, with what it lists TIED to the program's text (the seventh form; the later family's looks); each row that meets fmt, with fmt's text TOLD by the authors' own Lean function (tested against real Go, not proved from fmt's source: count such statements apart). THE CARD IS WHAT COUNTS. Prove the row's statement (the work); the ties are given (Qxb6614317aFmtTie.lean); close each card by the builder's one call (the guide's Derived/Test/ToyasCard.lean, 'card_holds'). Laid BY PROGRAM, IN A SANDBOX (cutbox-door.mjs). By AI agents, Wed Nov 11 2026. No macro, syntax, notation, axiom, sorry.
-/
import Derived.Test.Qxb6614317aFmtRows
import GoSem.ClaimSeven
namespace Go.Proofs.Qxb6614317aFmt
namespace Rows

/-- THE TOLD CARD OF 'zzlaws_pkg_ngap_b1.FnDecoderBitsByOctetChunks'. -/
def fnDecoderBitsByOctetChunksCard : Claim7 := { stood := { row := fnDecoderBitsByOctetChunksRow, standIns := [], harness := (true, "ba285f75488e9cb6f1a0da24ecef387ce5e081f83de17287afb92b56bcd299f0"), looks := false }, told := true, goes := false }
def FnDecoderBitsByOctetChunksToldSaid : Prop := Claim7.holds Tryf.pinned (.plain (OpenSpec.ofChange fnDecoderBitsByOctetChunksSpec)) fnDecoderBitsByOctetChunksCard
/-- ITS FALSE NEIGHBOUR. Refute it at one input. -/
def FnDecoderBitsByOctetChunksToldWrongFalsely : Prop := Claim7.holds Tryf.pinned (.plain (OpenSpec.ofChange fnDecoderBitsByOctetChunksWrong)) fnDecoderBitsByOctetChunksCard

/-- THE TOLD CARD OF 'zzlaws_pkg_ngap_b1.FnDecoderBitsSplitAtAnyCut'. -/
def fnDecoderBitsSplitAtAnyCutCard : Claim7 := { stood := { row := fnDecoderBitsSplitAtAnyCutRow, standIns := [], harness := (true, "ba285f75488e9cb6f1a0da24ecef387ce5e081f83de17287afb92b56bcd299f0"), looks := false }, told := true, goes := false }
def FnDecoderBitsSplitAtAnyCutToldSaid : Prop := Claim7.holds Tryf.pinned (.plain (OpenSpec.ofChange fnDecoderBitsSplitAtAnyCutSpec)) fnDecoderBitsSplitAtAnyCutCard
/-- ITS FALSE NEIGHBOUR. Refute it at one input. -/
def FnDecoderBitsSplitAtAnyCutToldWrongFalsely : Prop := Claim7.holds Tryf.pinned (.plain (OpenSpec.ofChange fnDecoderBitsSplitAtAnyCutWrong)) fnDecoderBitsSplitAtAnyCutCard

/-- THE TOLD CARD OF 'zzlaws_pkg_ngap_b1.FnDecoderWithinShiftsWithLowerBound'. -/
def fnDecoderWithinShiftsWithLowerBoundCard : Claim7 := { stood := { row := fnDecoderWithinShiftsWithLowerBoundRow, standIns := [], harness := (true, "ba285f75488e9cb6f1a0da24ecef387ce5e081f83de17287afb92b56bcd299f0"), looks := false }, told := true, goes := false }
def FnDecoderWithinShiftsWithLowerBoundToldSaid : Prop := Claim7.holds Tryf.pinned (.plain (OpenSpec.ofChange fnDecoderWithinShiftsWithLowerBoundSpec)) fnDecoderWithinShiftsWithLowerBoundCard
/-- ITS FALSE NEIGHBOUR. Refute it at one input. -/
def FnDecoderWithinShiftsWithLowerBoundToldWrongFalsely : Prop := Claim7.holds Tryf.pinned (.plain (OpenSpec.ofChange fnDecoderWithinShiftsWithLowerBoundWrong)) fnDecoderWithinShiftsWithLowerBoundCard

/-- THE TOLD CARD OF 'zzlaws_pkg_ngap_b1.FnDecoderWithinReadsOnlyItsOwnBits'. -/
def fnDecoderWithinReadsOnlyItsOwnBitsCard : Claim7 := { stood := { row := fnDecoderWithinReadsOnlyItsOwnBitsRow, standIns := [], harness := (true, "ba285f75488e9cb6f1a0da24ecef387ce5e081f83de17287afb92b56bcd299f0"), looks := false }, told := true, goes := false }
def FnDecoderWithinReadsOnlyItsOwnBitsToldSaid : Prop := Claim7.holds Tryf.pinned (.plain (OpenSpec.ofChange fnDecoderWithinReadsOnlyItsOwnBitsSpec)) fnDecoderWithinReadsOnlyItsOwnBitsCard
/-- ITS FALSE NEIGHBOUR. Refute it at one input. -/
def FnDecoderWithinReadsOnlyItsOwnBitsToldWrongFalsely : Prop := Claim7.holds Tryf.pinned (.plain (OpenSpec.ofChange fnDecoderWithinReadsOnlyItsOwnBitsWrong)) fnDecoderWithinReadsOnlyItsOwnBitsCard

/-- THE TOLD CARD OF 'zzlaws_pkg_ngap_b1.FnDecoderEnumeratedRootAgreesWithWithin'. -/
def fnDecoderEnumeratedRootAgreesWithWithinCard : Claim7 := { stood := { row := fnDecoderEnumeratedRootAgreesWithWithinRow, standIns := [], harness := (true, "ba285f75488e9cb6f1a0da24ecef387ce5e081f83de17287afb92b56bcd299f0"), looks := false }, told := true, goes := false }
def FnDecoderEnumeratedRootAgreesWithWithinToldSaid : Prop := Claim7.holds Tryf.pinned (.plain (OpenSpec.ofChange fnDecoderEnumeratedRootAgreesWithWithinSpec)) fnDecoderEnumeratedRootAgreesWithWithinCard
/-- ITS FALSE NEIGHBOUR. Refute it at one input. -/
def FnDecoderEnumeratedRootAgreesWithWithinToldWrongFalsely : Prop := Claim7.holds Tryf.pinned (.plain (OpenSpec.ofChange fnDecoderEnumeratedRootAgreesWithWithinWrong)) fnDecoderEnumeratedRootAgreesWithWithinCard

/-- THE TOLD CARD OF 'zzlaws_pkg_ngap_b1.FnDecoderEnumeratedExtensionShiftsWithRoot'. -/
def fnDecoderEnumeratedExtensionShiftsWithRootCard : Claim7 := { stood := { row := fnDecoderEnumeratedExtensionShiftsWithRootRow, standIns := [], harness := (true, "ba285f75488e9cb6f1a0da24ecef387ce5e081f83de17287afb92b56bcd299f0"), looks := false }, told := true, goes := false }
def FnDecoderEnumeratedExtensionShiftsWithRootToldSaid : Prop := Claim7.holds Tryf.pinned (.plain (OpenSpec.ofChange fnDecoderEnumeratedExtensionShiftsWithRootSpec)) fnDecoderEnumeratedExtensionShiftsWithRootCard
/-- ITS FALSE NEIGHBOUR. Refute it at one input. -/
def FnDecoderEnumeratedExtensionShiftsWithRootToldWrongFalsely : Prop := Claim7.holds Tryf.pinned (.plain (OpenSpec.ofChange fnDecoderEnumeratedExtensionShiftsWithRootWrong)) fnDecoderEnumeratedExtensionShiftsWithRootCard
end Rows
end Go.Proofs.Qxb6614317aFmt
