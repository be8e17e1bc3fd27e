/-
  No cell of these rows narrows 'for every input' (looked for: loops, veiled, ifaces, maps, wideKeys, modest, calm, conditions, laid).
  DERIVED. THE GIVEN ROWS OF THIS SEAT. 19 by the template 'for every input the law returns true; each argument reads behind the call as it read before'; 0 by the template 'total and deterministic' (their statements: YtooghncdhjdcpaaTotals.lean).
  GIVEN WITH THE SEED: the statements are not yours to turn. If you find one false, say at which input.
  Laid BY PROGRAM, IN A SANDBOX (cutbox-rows.mjs): the forced cells as the released guide's own fill.sh prints them over the translation 0a61a2c6113e6ff6… (all of the seat's roots in one cut). By AI agents, Wed Nov 11 2026. No macro, syntax, notation, axiom, sorry.
-/
import Derived.Test.YtooghncdhjdcpaaChecked
import GoSem.Claim
import GoSem.ClaimJoined
import GoSem.ClaimMapViews
import Derived.JoinedTies
import Derived.KernelRfl
namespace Go.Proofs.Ytooghncdhjdcpaa
/- THE CELL 'sum', in the pinned program and in every row, IS THE sha256 OF THE DUMP (.gsa) THAT YtooghncdhjdcpaaProg.lean LOADS. Nothing in Lean hashes anything: it is a label: what it is worth is what the hold of that sum in a sandbox is worth. -/
noncomputable def Try.pinned : Pinned := { name := "ytooghncdhjdcpaa", sum := "0a61a2c6113e6ff6ff0f5bf4f1bc8d60da9c893cb9aa992aec459967990ca44b", checked := Try.checked }
namespace Rows
def none {H : Type} : Left H := { results := [], args := [] }

/-- 'laws.FnGlyphs': WHATEVER THE INPUT: true; the input reads as it did. -/
def fnGlyphsSpec : ChangeSpec := { name := "fnGlyphs", fn := fun _ => fun
  | [d1, d2] => { results := [.lit (.bool true)], args := [d1, d2] }
  | _ => none }
def fnGlyphsRow : OpenClaim := { program := "ytooghncdhjdcpaa", sum := "0a61a2c6113e6ff6ff0f5bf4f1bc8d60da9c893cb9aa992aec459967990ca44b", func := "given.example/pub-quirewright/laws.FnGlyphs", spec := "fnGlyphs", apart := false }
def FnGlyphsSaid : Prop := fnGlyphsRow.holds Try.pinned (OpenSpec.ofChange fnGlyphsSpec)

/-- ITS FALSE NEIGHBOUR: 'it returns false'. Refute it at one input. -/
def fnGlyphsWrong : ChangeSpec := { name := "fnGlyphs", fn := fun _ => fun
  | [d1, d2] => { results := [.lit (.bool false)], args := [d1, d2] }
  | _ => none }
def FnGlyphsWrongFalsely : Prop := fnGlyphsRow.holds Try.pinned (OpenSpec.ofChange fnGlyphsWrong)

/-- 'laws.FnDims': WHATEVER THE INPUT: true; the input reads as it did. -/
def fnDimsSpec : ChangeSpec := { name := "fnDims", fn := fun _ => fun
  | [d] => { results := [.lit (.bool true)], args := [d] }
  | _ => none }
def fnDimsRow : OpenClaim := { program := "ytooghncdhjdcpaa", sum := "0a61a2c6113e6ff6ff0f5bf4f1bc8d60da9c893cb9aa992aec459967990ca44b", func := "given.example/pub-quirewright/laws.FnDims", spec := "fnDims", apart := false }
def FnDimsSaid : Prop := fnDimsRow.holds Try.pinned (OpenSpec.ofChange fnDimsSpec)

/-- ITS FALSE NEIGHBOUR: 'it returns false'. Refute it at one input. -/
def fnDimsWrong : ChangeSpec := { name := "fnDims", fn := fun _ => fun
  | [d] => { results := [.lit (.bool false)], args := [d] }
  | _ => none }
def FnDimsWrongFalsely : Prop := fnDimsRow.holds Try.pinned (OpenSpec.ofChange fnDimsWrong)

/-- 'laws.FnOffset': WHATEVER THE INPUT: true; the input reads as it did. -/
def fnOffsetSpec : ChangeSpec := { name := "fnOffset", fn := fun _ => fun
  | [d1, d2, d3] => { results := [.lit (.bool true)], args := [d1, d2, d3] }
  | _ => none }
def fnOffsetRow : OpenClaim := { program := "ytooghncdhjdcpaa", sum := "0a61a2c6113e6ff6ff0f5bf4f1bc8d60da9c893cb9aa992aec459967990ca44b", func := "given.example/pub-quirewright/laws.FnOffset", spec := "fnOffset", apart := false }
def FnOffsetSaid : Prop := fnOffsetRow.holds Try.pinned (OpenSpec.ofChange fnOffsetSpec)

/-- ITS FALSE NEIGHBOUR: 'it returns false'. Refute it at one input. -/
def fnOffsetWrong : ChangeSpec := { name := "fnOffset", fn := fun _ => fun
  | [d1, d2, d3] => { results := [.lit (.bool false)], args := [d1, d2, d3] }
  | _ => none }
def FnOffsetWrongFalsely : Prop := fnOffsetRow.holds Try.pinned (OpenSpec.ofChange fnOffsetWrong)

/-- 'laws.FnCropped': WHATEVER THE INPUT: true; the input reads as it did. -/
def fnCroppedSpec : ChangeSpec := { name := "fnCropped", fn := fun _ => fun
  | [d1, d2] => { results := [.lit (.bool true)], args := [d1, d2] }
  | _ => none }
def fnCroppedRow : OpenClaim := { program := "ytooghncdhjdcpaa", sum := "0a61a2c6113e6ff6ff0f5bf4f1bc8d60da9c893cb9aa992aec459967990ca44b", func := "given.example/pub-quirewright/laws.FnCropped", spec := "fnCropped", apart := false }
def FnCroppedSaid : Prop := fnCroppedRow.holds Try.pinned (OpenSpec.ofChange fnCroppedSpec)

/-- ITS FALSE NEIGHBOUR: 'it returns false'. Refute it at one input. -/
def fnCroppedWrong : ChangeSpec := { name := "fnCropped", fn := fun _ => fun
  | [d1, d2] => { results := [.lit (.bool false)], args := [d1, d2] }
  | _ => none }
def FnCroppedWrongFalsely : Prop := fnCroppedRow.holds Try.pinned (OpenSpec.ofChange fnCroppedWrong)

/-- 'laws.FnWithin': WHATEVER THE INPUT: true; the input reads as it did. -/
def fnWithinSpec : ChangeSpec := { name := "fnWithin", fn := fun _ => fun
  | [d1, d2] => { results := [.lit (.bool true)], args := [d1, d2] }
  | _ => none }
def fnWithinRow : OpenClaim := { program := "ytooghncdhjdcpaa", sum := "0a61a2c6113e6ff6ff0f5bf4f1bc8d60da9c893cb9aa992aec459967990ca44b", func := "given.example/pub-quirewright/laws.FnWithin", spec := "fnWithin", apart := false }
def FnWithinSaid : Prop := fnWithinRow.holds Try.pinned (OpenSpec.ofChange fnWithinSpec)

/-- ITS FALSE NEIGHBOUR: 'it returns false'. Refute it at one input. -/
def fnWithinWrong : ChangeSpec := { name := "fnWithin", fn := fun _ => fun
  | [d1, d2] => { results := [.lit (.bool false)], args := [d1, d2] }
  | _ => none }
def FnWithinWrongFalsely : Prop := fnWithinRow.holds Try.pinned (OpenSpec.ofChange fnWithinWrong)

/-- 'laws.FnMultiplied': WHATEVER THE INPUT: true; the input reads as it did. -/
def fnMultipliedSpec : ChangeSpec := { name := "fnMultiplied", fn := fun _ => fun
  | [d1, d2, d3] => { results := [.lit (.bool true)], args := [d1, d2, d3] }
  | _ => none }
def fnMultipliedRow : OpenClaim := { program := "ytooghncdhjdcpaa", sum := "0a61a2c6113e6ff6ff0f5bf4f1bc8d60da9c893cb9aa992aec459967990ca44b", func := "given.example/pub-quirewright/laws.FnMultiplied", spec := "fnMultiplied", apart := false }
def FnMultipliedSaid : Prop := fnMultipliedRow.holds Try.pinned (OpenSpec.ofChange fnMultipliedSpec)

/-- ITS FALSE NEIGHBOUR: 'it returns false'. Refute it at one input. -/
def fnMultipliedWrong : ChangeSpec := { name := "fnMultiplied", fn := fun _ => fun
  | [d1, d2, d3] => { results := [.lit (.bool false)], args := [d1, d2, d3] }
  | _ => none }
def FnMultipliedWrongFalsely : Prop := fnMultipliedRow.holds Try.pinned (OpenSpec.ofChange fnMultipliedWrong)

/-- 'laws.FnScaled': WHATEVER THE INPUT: true; the input reads as it did. -/
def fnScaledSpec : ChangeSpec := { name := "fnScaled", fn := fun _ => fun
  | [d1, d2, d3] => { results := [.lit (.bool true)], args := [d1, d2, d3] }
  | _ => none }
def fnScaledRow : OpenClaim := { program := "ytooghncdhjdcpaa", sum := "0a61a2c6113e6ff6ff0f5bf4f1bc8d60da9c893cb9aa992aec459967990ca44b", func := "given.example/pub-quirewright/laws.FnScaled", spec := "fnScaled", apart := false }
def FnScaledSaid : Prop := fnScaledRow.holds Try.pinned (OpenSpec.ofChange fnScaledSpec)

/-- ITS FALSE NEIGHBOUR: 'it returns false'. Refute it at one input. -/
def fnScaledWrong : ChangeSpec := { name := "fnScaled", fn := fun _ => fun
  | [d1, d2, d3] => { results := [.lit (.bool false)], args := [d1, d2, d3] }
  | _ => none }
def FnScaledWrongFalsely : Prop := fnScaledRow.holds Try.pinned (OpenSpec.ofChange fnScaledWrong)

/-- 'laws.FnZoomed': WHATEVER THE INPUT: true; the input reads as it did. -/
def fnZoomedSpec : ChangeSpec := { name := "fnZoomed", fn := fun _ => fun
  | [d1, d2, d3, d4] => { results := [.lit (.bool true)], args := [d1, d2, d3, d4] }
  | _ => none }
def fnZoomedRow : OpenClaim := { program := "ytooghncdhjdcpaa", sum := "0a61a2c6113e6ff6ff0f5bf4f1bc8d60da9c893cb9aa992aec459967990ca44b", func := "given.example/pub-quirewright/laws.FnZoomed", spec := "fnZoomed", apart := false }
def FnZoomedSaid : Prop := fnZoomedRow.holds Try.pinned (OpenSpec.ofChange fnZoomedSpec)

/-- ITS FALSE NEIGHBOUR: 'it returns false'. Refute it at one input. -/
def fnZoomedWrong : ChangeSpec := { name := "fnZoomed", fn := fun _ => fun
  | [d1, d2, d3, d4] => { results := [.lit (.bool false)], args := [d1, d2, d3, d4] }
  | _ => none }
def FnZoomedWrongFalsely : Prop := fnZoomedRow.holds Try.pinned (OpenSpec.ofChange fnZoomedWrong)

/-- 'laws.FnAligned': WHATEVER THE INPUT: true; the input reads as it did. -/
def fnAlignedSpec : ChangeSpec := { name := "fnAligned", fn := fun _ => fun
  | [d1, d2] => { results := [.lit (.bool true)], args := [d1, d2] }
  | _ => none }
def fnAlignedRow : OpenClaim := { program := "ytooghncdhjdcpaa", sum := "0a61a2c6113e6ff6ff0f5bf4f1bc8d60da9c893cb9aa992aec459967990ca44b", func := "given.example/pub-quirewright/laws.FnAligned", spec := "fnAligned", apart := false }
def FnAlignedSaid : Prop := fnAlignedRow.holds Try.pinned (OpenSpec.ofChange fnAlignedSpec)

/-- ITS FALSE NEIGHBOUR: 'it returns false'. Refute it at one input. -/
def fnAlignedWrong : ChangeSpec := { name := "fnAligned", fn := fun _ => fun
  | [d1, d2] => { results := [.lit (.bool false)], args := [d1, d2] }
  | _ => none }
def FnAlignedWrongFalsely : Prop := fnAlignedRow.holds Try.pinned (OpenSpec.ofChange fnAlignedWrong)

/-- 'laws.FnAnchored': WHATEVER THE INPUT: true; the input reads as it did. -/
def fnAnchoredSpec : ChangeSpec := { name := "fnAnchored", fn := fun _ => fun
  | [d1, d2, d3, d4] => { results := [.lit (.bool true)], args := [d1, d2, d3, d4] }
  | _ => none }
def fnAnchoredRow : OpenClaim := { program := "ytooghncdhjdcpaa", sum := "0a61a2c6113e6ff6ff0f5bf4f1bc8d60da9c893cb9aa992aec459967990ca44b", func := "given.example/pub-quirewright/laws.FnAnchored", spec := "fnAnchored", apart := false }
def FnAnchoredSaid : Prop := fnAnchoredRow.holds Try.pinned (OpenSpec.ofChange fnAnchoredSpec)

/-- ITS FALSE NEIGHBOUR: 'it returns false'. Refute it at one input. -/
def fnAnchoredWrong : ChangeSpec := { name := "fnAnchored", fn := fun _ => fun
  | [d1, d2, d3, d4] => { results := [.lit (.bool false)], args := [d1, d2, d3, d4] }
  | _ => none }
def FnAnchoredWrongFalsely : Prop := fnAnchoredRow.holds Try.pinned (OpenSpec.ofChange fnAnchoredWrong)

/-- 'laws.FnEnclosing': WHATEVER THE INPUT: true; the input reads as it did. -/
def fnEnclosingSpec : ChangeSpec := { name := "fnEnclosing", fn := fun _ => fun
  | [d1, d2] => { results := [.lit (.bool true)], args := [d1, d2] }
  | _ => none }
def fnEnclosingRow : OpenClaim := { program := "ytooghncdhjdcpaa", sum := "0a61a2c6113e6ff6ff0f5bf4f1bc8d60da9c893cb9aa992aec459967990ca44b", func := "given.example/pub-quirewright/laws.FnEnclosing", spec := "fnEnclosing", apart := false }
def FnEnclosingSaid : Prop := fnEnclosingRow.holds Try.pinned (OpenSpec.ofChange fnEnclosingSpec)

/-- ITS FALSE NEIGHBOUR: 'it returns false'. Refute it at one input. -/
def fnEnclosingWrong : ChangeSpec := { name := "fnEnclosing", fn := fun _ => fun
  | [d1, d2] => { results := [.lit (.bool false)], args := [d1, d2] }
  | _ => none }
def FnEnclosingWrongFalsely : Prop := fnEnclosingRow.holds Try.pinned (OpenSpec.ofChange fnEnclosingWrong)

/-- 'laws.FnUnion': WHATEVER THE INPUT: true; the input reads as it did. -/
def fnUnionSpec : ChangeSpec := { name := "fnUnion", fn := fun _ => fun
  | [d1, d2] => { results := [.lit (.bool true)], args := [d1, d2] }
  | _ => none }
def fnUnionRow : OpenClaim := { program := "ytooghncdhjdcpaa", sum := "0a61a2c6113e6ff6ff0f5bf4f1bc8d60da9c893cb9aa992aec459967990ca44b", func := "given.example/pub-quirewright/laws.FnUnion", spec := "fnUnion", apart := false }
def FnUnionSaid : Prop := fnUnionRow.holds Try.pinned (OpenSpec.ofChange fnUnionSpec)

/-- ITS FALSE NEIGHBOUR: 'it returns false'. Refute it at one input. -/
def fnUnionWrong : ChangeSpec := { name := "fnUnion", fn := fun _ => fun
  | [d1, d2] => { results := [.lit (.bool false)], args := [d1, d2] }
  | _ => none }
def FnUnionWrongFalsely : Prop := fnUnionRow.holds Try.pinned (OpenSpec.ofChange fnUnionWrong)

/-- 'laws.FnCoord': WHATEVER THE INPUT: true; the input reads as it did. -/
def fnCoordSpec : ChangeSpec := { name := "fnCoord", fn := fun _ => fun
  | [d1, d2, d3, d4, d5] => { results := [.lit (.bool true)], args := [d1, d2, d3, d4, d5] }
  | _ => none }
def fnCoordRow : OpenClaim := { program := "ytooghncdhjdcpaa", sum := "0a61a2c6113e6ff6ff0f5bf4f1bc8d60da9c893cb9aa992aec459967990ca44b", func := "given.example/pub-quirewright/laws.FnCoord", spec := "fnCoord", apart := false }
def FnCoordSaid : Prop := fnCoordRow.holds Try.pinned (OpenSpec.ofChange fnCoordSpec)

/-- ITS FALSE NEIGHBOUR: 'it returns false'. Refute it at one input. -/
def fnCoordWrong : ChangeSpec := { name := "fnCoord", fn := fun _ => fun
  | [d1, d2, d3, d4, d5] => { results := [.lit (.bool false)], args := [d1, d2, d3, d4, d5] }
  | _ => none }
def FnCoordWrongFalsely : Prop := fnCoordRow.holds Try.pinned (OpenSpec.ofChange fnCoordWrong)

/-- 'laws.FnEffective': WHATEVER THE INPUT: true; the input reads as it did. -/
def fnEffectiveSpec : ChangeSpec := { name := "fnEffective", fn := fun _ => fun
  | [d1, d2] => { results := [.lit (.bool true)], args := [d1, d2] }
  | _ => none }
def fnEffectiveRow : OpenClaim := { program := "ytooghncdhjdcpaa", sum := "0a61a2c6113e6ff6ff0f5bf4f1bc8d60da9c893cb9aa992aec459967990ca44b", func := "given.example/pub-quirewright/laws.FnEffective", spec := "fnEffective", apart := false }
def FnEffectiveSaid : Prop := fnEffectiveRow.holds Try.pinned (OpenSpec.ofChange fnEffectiveSpec)

/-- ITS FALSE NEIGHBOUR: 'it returns false'. Refute it at one input. -/
def fnEffectiveWrong : ChangeSpec := { name := "fnEffective", fn := fun _ => fun
  | [d1, d2] => { results := [.lit (.bool false)], args := [d1, d2] }
  | _ => none }
def FnEffectiveWrongFalsely : Prop := fnEffectiveRow.holds Try.pinned (OpenSpec.ofChange fnEffectiveWrong)

/-- 'laws.FnCutsOfN': WHATEVER THE INPUT: true; the input reads as it did. -/
def fnCutsOfNSpec : ChangeSpec := { name := "fnCutsOfN", fn := fun _ => fun
  | [d1, d2, d3] => { results := [.lit (.bool true)], args := [d1, d2, d3] }
  | _ => none }
def fnCutsOfNRow : OpenClaim := { program := "ytooghncdhjdcpaa", sum := "0a61a2c6113e6ff6ff0f5bf4f1bc8d60da9c893cb9aa992aec459967990ca44b", func := "given.example/pub-quirewright/laws.FnCutsOfN", spec := "fnCutsOfN", apart := false }
def FnCutsOfNSaid : Prop := fnCutsOfNRow.holds Try.pinned (OpenSpec.ofChange fnCutsOfNSpec)

/-- ITS FALSE NEIGHBOUR: 'it returns false'. Refute it at one input. -/
def fnCutsOfNWrong : ChangeSpec := { name := "fnCutsOfN", fn := fun _ => fun
  | [d1, d2, d3] => { results := [.lit (.bool false)], args := [d1, d2, d3] }
  | _ => none }
def FnCutsOfNWrongFalsely : Prop := fnCutsOfNRow.holds Try.pinned (OpenSpec.ofChange fnCutsOfNWrong)

/-- 'laws.FnUnits': WHATEVER THE INPUT: true; the input reads as it did. -/
def fnUnitsSpec : ChangeSpec := { name := "fnUnits", fn := fun _ => fun
  | [d1, d2, d3, d4] => { results := [.lit (.bool true)], args := [d1, d2, d3, d4] }
  | _ => none }
def fnUnitsRow : OpenClaim := { program := "ytooghncdhjdcpaa", sum := "0a61a2c6113e6ff6ff0f5bf4f1bc8d60da9c893cb9aa992aec459967990ca44b", func := "given.example/pub-quirewright/laws.FnUnits", spec := "fnUnits", apart := false }
def FnUnitsSaid : Prop := fnUnitsRow.holds Try.pinned (OpenSpec.ofChange fnUnitsSpec)

/-- ITS FALSE NEIGHBOUR: 'it returns false'. Refute it at one input. -/
def fnUnitsWrong : ChangeSpec := { name := "fnUnits", fn := fun _ => fun
  | [d1, d2, d3, d4] => { results := [.lit (.bool false)], args := [d1, d2, d3, d4] }
  | _ => none }
def FnUnitsWrongFalsely : Prop := fnUnitsRow.holds Try.pinned (OpenSpec.ofChange fnUnitsWrong)

/-- 'laws.FnCutsOfPoster': WHATEVER THE INPUT: true; the input reads as it did. -/
def fnCutsOfPosterSpec : ChangeSpec := { name := "fnCutsOfPoster", fn := fun _ => fun
  | [d1, d2, d3] => { results := [.lit (.bool true)], args := [d1, d2, d3] }
  | _ => none }
def fnCutsOfPosterRow : OpenClaim := { program := "ytooghncdhjdcpaa", sum := "0a61a2c6113e6ff6ff0f5bf4f1bc8d60da9c893cb9aa992aec459967990ca44b", func := "given.example/pub-quirewright/laws.FnCutsOfPoster", spec := "fnCutsOfPoster", inPlace := ["math.Float64bits", "math.Float64frombits"], apart := false }
def FnCutsOfPosterSaid : Prop := fnCutsOfPosterRow.holds Try.pinned (OpenSpec.ofChange fnCutsOfPosterSpec)

/-- ITS FALSE NEIGHBOUR: 'it returns false'. Refute it at one input. -/
def fnCutsOfPosterWrong : ChangeSpec := { name := "fnCutsOfPoster", fn := fun _ => fun
  | [d1, d2, d3] => { results := [.lit (.bool false)], args := [d1, d2, d3] }
  | _ => none }
def FnCutsOfPosterWrongFalsely : Prop := fnCutsOfPosterRow.holds Try.pinned (OpenSpec.ofChange fnCutsOfPosterWrong)

/-- 'laws.FnGridRects': WHATEVER THE INPUT: true; the input reads as it did. -/
def fnGridRectsSpec : ChangeSpec := { name := "fnGridRects", fn := fun _ => fun
  | [d1, d2, d3, d4] => { results := [.lit (.bool true)], args := [d1, d2, d3, d4] }
  | _ => none }
def fnGridRectsRow : OpenClaim := { program := "ytooghncdhjdcpaa", sum := "0a61a2c6113e6ff6ff0f5bf4f1bc8d60da9c893cb9aa992aec459967990ca44b", func := "given.example/pub-quirewright/laws.FnGridRects", spec := "fnGridRects", unfollowed := true, recurses := true, apart := false }
def FnGridRectsSaid : Prop := fnGridRectsRow.holds Try.pinned (OpenSpec.ofChange fnGridRectsSpec)

/-- ITS FALSE NEIGHBOUR: 'it returns false'. Refute it at one input. -/
def fnGridRectsWrong : ChangeSpec := { name := "fnGridRects", fn := fun _ => fun
  | [d1, d2, d3, d4] => { results := [.lit (.bool false)], args := [d1, d2, d3, d4] }
  | _ => none }
def FnGridRectsWrongFalsely : Prop := fnGridRectsRow.holds Try.pinned (OpenSpec.ofChange fnGridRectsWrong)

/-- 'laws.FnFitted': WHATEVER THE INPUT: true; the input reads as it did. -/
def fnFittedSpec : ChangeSpec := { name := "fnFitted", fn := fun _ => fun
  | [d1, d2, d3, d4] => { results := [.lit (.bool true)], args := [d1, d2, d3, d4] }
  | _ => none }
def fnFittedRow : OpenClaim := { program := "ytooghncdhjdcpaa", sum := "0a61a2c6113e6ff6ff0f5bf4f1bc8d60da9c893cb9aa992aec459967990ca44b", func := "given.example/pub-quirewright/laws.FnFitted", spec := "fnFitted", apart := false }
def FnFittedSaid : Prop := fnFittedRow.holds Try.pinned (OpenSpec.ofChange fnFittedSpec)

/-- ITS FALSE NEIGHBOUR: 'it returns false'. Refute it at one input. -/
def fnFittedWrong : ChangeSpec := { name := "fnFitted", fn := fun _ => fun
  | [d1, d2, d3, d4] => { results := [.lit (.bool false)], args := [d1, d2, d3, d4] }
  | _ => none }
def FnFittedWrongFalsely : Prop := fnFittedRow.holds Try.pinned (OpenSpec.ofChange fnFittedWrong)

/- THE SECOND FORM. 'bulk': how many values and letters a reading holds, each counted each time it is reached (what is shared counts as often as it is met; a slice's spare places count too). A statement '..UptoSaid' is the law's where the arguments, and the package variables that the reading takes, are together of bulk at most 1048576: NARROWER than '..Said'. Prove '..Said' where nothing that the law and all that it calls make is longer than what came in: it says more and counts as full. Else prove '..UptoSaid'. A law counts once. -/
mutual
def uptoBulk {H : Type} : DataW H → Nat
  | .lit (.string bytes) => bytes.length + 1
  | .lit _ => 1
  | .nil => 1
  | .ptr d => uptoBulk d + 1
  | .slice elems spare => uptoBulkAll elems + uptoBulkAll spare + 1
  | .agg parts => uptoBulkAll parts + 1
  | .iface _ d => uptoBulk d + 1
  | .map entries => uptoBulkEntries entries + 1
  | .held _ => 1
def uptoBulkAll {H : Type} : List (DataW H) → Nat
  | [] => 0
  | d :: r => uptoBulk d + uptoBulkAll r
def uptoBulkEntries {H : Type} : List (Lit × DataW H) → Nat
  | [] => 0
  | x :: r => uptoBulkEntry x + uptoBulkEntries r
def uptoBulkEntry {H : Type} : Lit × DataW H → Nat
  | (.string bytes, d) => bytes.length + uptoBulk d + 1
  | (_, d) => uptoBulk d + 1
 end
def uptoSmall : (H : Type) → List (DataW H) → Bool := fun _ ds => decide (uptoBulkAll ds ≤ 1048576)
def OpenSpec.upto (s : _root_.Go.ChangeSpec) : _root_.Go.OpenSpec := { _root_.Go.OpenSpec.ofChange s with cond := some uptoSmall }

/-- 'laws.FnGlyphs', WHERE WHAT IT READS IS OF BULK AT MOST 1048576: true; the input reads as it did. -/
def fnGlyphsUptoRow : OpenClaim := { program := "ytooghncdhjdcpaa", sum := "0a61a2c6113e6ff6ff0f5bf4f1bc8d60da9c893cb9aa992aec459967990ca44b", func := "given.example/pub-quirewright/laws.FnGlyphs", spec := "fnGlyphs", apart := false, narrowed := true }
def FnGlyphsUptoSaid : Prop := fnGlyphsUptoRow.holds Try.pinned (OpenSpec.upto fnGlyphsSpec)

/-- 'laws.FnDims', WHERE WHAT IT READS IS OF BULK AT MOST 1048576: true; the input reads as it did. -/
def fnDimsUptoRow : OpenClaim := { program := "ytooghncdhjdcpaa", sum := "0a61a2c6113e6ff6ff0f5bf4f1bc8d60da9c893cb9aa992aec459967990ca44b", func := "given.example/pub-quirewright/laws.FnDims", spec := "fnDims", apart := false, narrowed := true }
def FnDimsUptoSaid : Prop := fnDimsUptoRow.holds Try.pinned (OpenSpec.upto fnDimsSpec)

/-- 'laws.FnOffset', WHERE WHAT IT READS IS OF BULK AT MOST 1048576: true; the input reads as it did. -/
def fnOffsetUptoRow : OpenClaim := { program := "ytooghncdhjdcpaa", sum := "0a61a2c6113e6ff6ff0f5bf4f1bc8d60da9c893cb9aa992aec459967990ca44b", func := "given.example/pub-quirewright/laws.FnOffset", spec := "fnOffset", apart := false, narrowed := true }
def FnOffsetUptoSaid : Prop := fnOffsetUptoRow.holds Try.pinned (OpenSpec.upto fnOffsetSpec)

/-- 'laws.FnCropped', WHERE WHAT IT READS IS OF BULK AT MOST 1048576: true; the input reads as it did. -/
def fnCroppedUptoRow : OpenClaim := { program := "ytooghncdhjdcpaa", sum := "0a61a2c6113e6ff6ff0f5bf4f1bc8d60da9c893cb9aa992aec459967990ca44b", func := "given.example/pub-quirewright/laws.FnCropped", spec := "fnCropped", apart := false, narrowed := true }
def FnCroppedUptoSaid : Prop := fnCroppedUptoRow.holds Try.pinned (OpenSpec.upto fnCroppedSpec)

/-- 'laws.FnWithin', WHERE WHAT IT READS IS OF BULK AT MOST 1048576: true; the input reads as it did. -/
def fnWithinUptoRow : OpenClaim := { program := "ytooghncdhjdcpaa", sum := "0a61a2c6113e6ff6ff0f5bf4f1bc8d60da9c893cb9aa992aec459967990ca44b", func := "given.example/pub-quirewright/laws.FnWithin", spec := "fnWithin", apart := false, narrowed := true }
def FnWithinUptoSaid : Prop := fnWithinUptoRow.holds Try.pinned (OpenSpec.upto fnWithinSpec)

/-- 'laws.FnMultiplied', WHERE WHAT IT READS IS OF BULK AT MOST 1048576: true; the input reads as it did. -/
def fnMultipliedUptoRow : OpenClaim := { program := "ytooghncdhjdcpaa", sum := "0a61a2c6113e6ff6ff0f5bf4f1bc8d60da9c893cb9aa992aec459967990ca44b", func := "given.example/pub-quirewright/laws.FnMultiplied", spec := "fnMultiplied", apart := false, narrowed := true }
def FnMultipliedUptoSaid : Prop := fnMultipliedUptoRow.holds Try.pinned (OpenSpec.upto fnMultipliedSpec)

/-- 'laws.FnScaled', WHERE WHAT IT READS IS OF BULK AT MOST 1048576: true; the input reads as it did. -/
def fnScaledUptoRow : OpenClaim := { program := "ytooghncdhjdcpaa", sum := "0a61a2c6113e6ff6ff0f5bf4f1bc8d60da9c893cb9aa992aec459967990ca44b", func := "given.example/pub-quirewright/laws.FnScaled", spec := "fnScaled", apart := false, narrowed := true }
def FnScaledUptoSaid : Prop := fnScaledUptoRow.holds Try.pinned (OpenSpec.upto fnScaledSpec)

/-- 'laws.FnZoomed', WHERE WHAT IT READS IS OF BULK AT MOST 1048576: true; the input reads as it did. -/
def fnZoomedUptoRow : OpenClaim := { program := "ytooghncdhjdcpaa", sum := "0a61a2c6113e6ff6ff0f5bf4f1bc8d60da9c893cb9aa992aec459967990ca44b", func := "given.example/pub-quirewright/laws.FnZoomed", spec := "fnZoomed", apart := false, narrowed := true }
def FnZoomedUptoSaid : Prop := fnZoomedUptoRow.holds Try.pinned (OpenSpec.upto fnZoomedSpec)

/-- 'laws.FnAligned', WHERE WHAT IT READS IS OF BULK AT MOST 1048576: true; the input reads as it did. -/
def fnAlignedUptoRow : OpenClaim := { program := "ytooghncdhjdcpaa", sum := "0a61a2c6113e6ff6ff0f5bf4f1bc8d60da9c893cb9aa992aec459967990ca44b", func := "given.example/pub-quirewright/laws.FnAligned", spec := "fnAligned", apart := false, narrowed := true }
def FnAlignedUptoSaid : Prop := fnAlignedUptoRow.holds Try.pinned (OpenSpec.upto fnAlignedSpec)

/-- 'laws.FnAnchored', WHERE WHAT IT READS IS OF BULK AT MOST 1048576: true; the input reads as it did. -/
def fnAnchoredUptoRow : OpenClaim := { program := "ytooghncdhjdcpaa", sum := "0a61a2c6113e6ff6ff0f5bf4f1bc8d60da9c893cb9aa992aec459967990ca44b", func := "given.example/pub-quirewright/laws.FnAnchored", spec := "fnAnchored", apart := false, narrowed := true }
def FnAnchoredUptoSaid : Prop := fnAnchoredUptoRow.holds Try.pinned (OpenSpec.upto fnAnchoredSpec)

/-- 'laws.FnEnclosing', WHERE WHAT IT READS IS OF BULK AT MOST 1048576: true; the input reads as it did. -/
def fnEnclosingUptoRow : OpenClaim := { program := "ytooghncdhjdcpaa", sum := "0a61a2c6113e6ff6ff0f5bf4f1bc8d60da9c893cb9aa992aec459967990ca44b", func := "given.example/pub-quirewright/laws.FnEnclosing", spec := "fnEnclosing", apart := false, narrowed := true }
def FnEnclosingUptoSaid : Prop := fnEnclosingUptoRow.holds Try.pinned (OpenSpec.upto fnEnclosingSpec)

/-- 'laws.FnUnion', WHERE WHAT IT READS IS OF BULK AT MOST 1048576: true; the input reads as it did. -/
def fnUnionUptoRow : OpenClaim := { program := "ytooghncdhjdcpaa", sum := "0a61a2c6113e6ff6ff0f5bf4f1bc8d60da9c893cb9aa992aec459967990ca44b", func := "given.example/pub-quirewright/laws.FnUnion", spec := "fnUnion", apart := false, narrowed := true }
def FnUnionUptoSaid : Prop := fnUnionUptoRow.holds Try.pinned (OpenSpec.upto fnUnionSpec)

/-- 'laws.FnCoord', WHERE WHAT IT READS IS OF BULK AT MOST 1048576: true; the input reads as it did. -/
def fnCoordUptoRow : OpenClaim := { program := "ytooghncdhjdcpaa", sum := "0a61a2c6113e6ff6ff0f5bf4f1bc8d60da9c893cb9aa992aec459967990ca44b", func := "given.example/pub-quirewright/laws.FnCoord", spec := "fnCoord", apart := false, narrowed := true }
def FnCoordUptoSaid : Prop := fnCoordUptoRow.holds Try.pinned (OpenSpec.upto fnCoordSpec)

/-- 'laws.FnEffective', WHERE WHAT IT READS IS OF BULK AT MOST 1048576: true; the input reads as it did. -/
def fnEffectiveUptoRow : OpenClaim := { program := "ytooghncdhjdcpaa", sum := "0a61a2c6113e6ff6ff0f5bf4f1bc8d60da9c893cb9aa992aec459967990ca44b", func := "given.example/pub-quirewright/laws.FnEffective", spec := "fnEffective", apart := false, narrowed := true }
def FnEffectiveUptoSaid : Prop := fnEffectiveUptoRow.holds Try.pinned (OpenSpec.upto fnEffectiveSpec)

/-- 'laws.FnCutsOfN', WHERE WHAT IT READS IS OF BULK AT MOST 1048576: true; the input reads as it did. -/
def fnCutsOfNUptoRow : OpenClaim := { program := "ytooghncdhjdcpaa", sum := "0a61a2c6113e6ff6ff0f5bf4f1bc8d60da9c893cb9aa992aec459967990ca44b", func := "given.example/pub-quirewright/laws.FnCutsOfN", spec := "fnCutsOfN", apart := false, narrowed := true }
def FnCutsOfNUptoSaid : Prop := fnCutsOfNUptoRow.holds Try.pinned (OpenSpec.upto fnCutsOfNSpec)

/-- 'laws.FnUnits', WHERE WHAT IT READS IS OF BULK AT MOST 1048576: true; the input reads as it did. -/
def fnUnitsUptoRow : OpenClaim := { program := "ytooghncdhjdcpaa", sum := "0a61a2c6113e6ff6ff0f5bf4f1bc8d60da9c893cb9aa992aec459967990ca44b", func := "given.example/pub-quirewright/laws.FnUnits", spec := "fnUnits", apart := false, narrowed := true }
def FnUnitsUptoSaid : Prop := fnUnitsUptoRow.holds Try.pinned (OpenSpec.upto fnUnitsSpec)

/-- 'laws.FnCutsOfPoster', WHERE WHAT IT READS IS OF BULK AT MOST 1048576: true; the input reads as it did. -/
def fnCutsOfPosterUptoRow : OpenClaim := { program := "ytooghncdhjdcpaa", sum := "0a61a2c6113e6ff6ff0f5bf4f1bc8d60da9c893cb9aa992aec459967990ca44b", func := "given.example/pub-quirewright/laws.FnCutsOfPoster", spec := "fnCutsOfPoster", inPlace := ["math.Float64bits", "math.Float64frombits"], apart := false, narrowed := true }
def FnCutsOfPosterUptoSaid : Prop := fnCutsOfPosterUptoRow.holds Try.pinned (OpenSpec.upto fnCutsOfPosterSpec)

/-- 'laws.FnGridRects', WHERE WHAT IT READS IS OF BULK AT MOST 1048576: true; the input reads as it did. -/
def fnGridRectsUptoRow : OpenClaim := { program := "ytooghncdhjdcpaa", sum := "0a61a2c6113e6ff6ff0f5bf4f1bc8d60da9c893cb9aa992aec459967990ca44b", func := "given.example/pub-quirewright/laws.FnGridRects", spec := "fnGridRects", unfollowed := true, recurses := true, apart := false, narrowed := true }
def FnGridRectsUptoSaid : Prop := fnGridRectsUptoRow.holds Try.pinned (OpenSpec.upto fnGridRectsSpec)

/-- 'laws.FnFitted', WHERE WHAT IT READS IS OF BULK AT MOST 1048576: true; the input reads as it did. -/
def fnFittedUptoRow : OpenClaim := { program := "ytooghncdhjdcpaa", sum := "0a61a2c6113e6ff6ff0f5bf4f1bc8d60da9c893cb9aa992aec459967990ca44b", func := "given.example/pub-quirewright/laws.FnFitted", spec := "fnFitted", apart := false, narrowed := true }
def FnFittedUptoSaid : Prop := fnFittedUptoRow.holds Try.pinned (OpenSpec.upto fnFittedSpec)

end Rows
end Go.Proofs.Ytooghncdhjdcpaa
