/-
  No cell of these rows narrows 'for every input' (looked for: loops, veiled, ifaces, maps, wideKeys, modest, calm, conditions, laid).
  DERIVED. THE GIVEN ROWS OF THIS SEAT. 7 by the template 'for every input the law returns true; each argument reads behind the call as it read before'; 0 by the template 'total and deterministic' (their statements: YtmngibfakkfnnaaTotals.lean).
  GIVEN WITH THE SEED: the statements are not yours to turn. If you find one false, say at which input.
  Laid BY PROGRAM, IN A SANDBOX (cutbox-rows.mjs): the forced cells as the released guide's own fill.sh prints them over the translation 701d4f7dff7d829e… (all of the seat's roots in one cut). By AI agents, Wed Nov 11 2026. No macro, syntax, notation, axiom, sorry.
-/
import Derived.Test.YtmngibfakkfnnaaChecked
import GoSem.Claim
import GoSem.ClaimJoined
import GoSem.ClaimMapViews
import Derived.JoinedTies
import Derived.KernelRfl
namespace Go.Proofs.Ytmngibfakkfnnaa
/- THE CELL 'sum', in the pinned program and in every row, IS THE sha256 OF THE DUMP (.gsa) THAT YtmngibfakkfnnaaProg.lean LOADS. Nothing in Lean hashes anything: it is a label: what it is worth is what the hold of that sum in a sandbox is worth. -/
noncomputable def Try.pinned : Pinned := { name := "ytmngibfakkfnnaa", sum := "701d4f7dff7d829e9b72140bc5f215f6da4797a4f1563358e20112940b1f6ba3", checked := Try.checked }
namespace Rows
def none {H : Type} : Left H := { results := [], args := [] }

/-- 'laws.FnOriginOf': WHATEVER THE INPUT: true; the input reads as it did. -/
def fnOriginOfSpec : ChangeSpec := { name := "fnOriginOf", fn := fun _ => fun
  | [d1, d2, d3] => { results := [.lit (.bool true)], args := [d1, d2, d3] }
  | _ => none }
def fnOriginOfRow : OpenClaim := { program := "ytmngibfakkfnnaa", sum := "701d4f7dff7d829e9b72140bc5f215f6da4797a4f1563358e20112940b1f6ba3", func := "given.example/pub-quirewright/laws.FnOriginOf", spec := "fnOriginOf", apart := false }
def FnOriginOfSaid : Prop := fnOriginOfRow.holds Try.pinned (OpenSpec.ofChange fnOriginOfSpec)

/-- ITS FALSE NEIGHBOUR: 'it returns false'. Refute it at one input. -/
def fnOriginOfWrong : ChangeSpec := { name := "fnOriginOf", fn := fun _ => fun
  | [d1, d2, d3] => { results := [.lit (.bool false)], args := [d1, d2, d3] }
  | _ => none }
def FnOriginOfWrongFalsely : Prop := fnOriginOfRow.holds Try.pinned (OpenSpec.ofChange fnOriginOfWrong)

/-- 'laws.FnMembers': WHATEVER THE INPUT: true; the input reads as it did. -/
def fnMembersSpec : ChangeSpec := { name := "fnMembers", fn := fun _ => fun
  | [d1, d2, d3, d4, d5] => { results := [.lit (.bool true)], args := [d1, d2, d3, d4, d5] }
  | _ => none }
def fnMembersRow : OpenClaim := { program := "ytmngibfakkfnnaa", sum := "701d4f7dff7d829e9b72140bc5f215f6da4797a4f1563358e20112940b1f6ba3", func := "given.example/pub-quirewright/laws.FnMembers", spec := "fnMembers", apart := false }
def FnMembersSaid : Prop := fnMembersRow.holds Try.pinned (OpenSpec.ofChange fnMembersSpec)

/-- ITS FALSE NEIGHBOUR: 'it returns false'. Refute it at one input. -/
def fnMembersWrong : ChangeSpec := { name := "fnMembers", fn := fun _ => fun
  | [d1, d2, d3, d4, d5] => { results := [.lit (.bool false)], args := [d1, d2, d3, d4, d5] }
  | _ => none }
def FnMembersWrongFalsely : Prop := fnMembersRow.holds Try.pinned (OpenSpec.ofChange fnMembersWrong)

/-- 'laws.FnAnchorName': WHATEVER THE INPUT: true; the input reads as it did. -/
def fnAnchorNameSpec : ChangeSpec := { name := "fnAnchorName", fn := fun _ => fun
  | [d] => { results := [.lit (.bool true)], args := [d] }
  | _ => none }
def fnAnchorNameRow : OpenClaim := { program := "ytmngibfakkfnnaa", sum := "701d4f7dff7d829e9b72140bc5f215f6da4797a4f1563358e20112940b1f6ba3", func := "given.example/pub-quirewright/laws.FnAnchorName", spec := "fnAnchorName", apart := false }
def FnAnchorNameSaid : Prop := fnAnchorNameRow.holds Try.pinned (OpenSpec.ofChange fnAnchorNameSpec)

/-- ITS FALSE NEIGHBOUR: 'it returns false'. Refute it at one input. -/
def fnAnchorNameWrong : ChangeSpec := { name := "fnAnchorName", fn := fun _ => fun
  | [d] => { results := [.lit (.bool false)], args := [d] }
  | _ => none }
def FnAnchorNameWrongFalsely : Prop := fnAnchorNameRow.holds Try.pinned (OpenSpec.ofChange fnAnchorNameWrong)

/-- 'laws.FnWestern': WHATEVER THE INPUT: true; the input reads as it did. -/
def fnWesternSpec : ChangeSpec := { name := "fnWestern", fn := fun _ => fun
  | [d] => { results := [.lit (.bool true)], args := [d] }
  | _ => none }
def fnWesternRow : OpenClaim := { program := "ytmngibfakkfnnaa", sum := "701d4f7dff7d829e9b72140bc5f215f6da4797a4f1563358e20112940b1f6ba3", func := "given.example/pub-quirewright/laws.FnWestern", spec := "fnWestern", apart := false }
def FnWesternSaid : Prop := fnWesternRow.holds Try.pinned (OpenSpec.ofChange fnWesternSpec)

/-- ITS FALSE NEIGHBOUR: 'it returns false'. Refute it at one input. -/
def fnWesternWrong : ChangeSpec := { name := "fnWestern", fn := fun _ => fun
  | [d] => { results := [.lit (.bool false)], args := [d] }
  | _ => none }
def FnWesternWrongFalsely : Prop := fnWesternRow.holds Try.pinned (OpenSpec.ofChange fnWesternWrong)

/-- 'laws.FnSplitText': WHATEVER THE INPUT: true; the input reads as it did. -/
def fnSplitTextSpec : ChangeSpec := { name := "fnSplitText", fn := fun _ => fun
  | [d1, d2] => { results := [.lit (.bool true)], args := [d1, d2] }
  | _ => none }
def fnSplitTextRow : OpenClaim := { program := "ytmngibfakkfnnaa", sum := "701d4f7dff7d829e9b72140bc5f215f6da4797a4f1563358e20112940b1f6ba3", func := "given.example/pub-quirewright/laws.FnSplitText", spec := "fnSplitText", unfollowed := true, recurses := true, apart := false }
def FnSplitTextSaid : Prop := fnSplitTextRow.holds Try.pinned (OpenSpec.ofChange fnSplitTextSpec)

/-- ITS FALSE NEIGHBOUR: 'it returns false'. Refute it at one input. -/
def fnSplitTextWrong : ChangeSpec := { name := "fnSplitText", fn := fun _ => fun
  | [d1, d2] => { results := [.lit (.bool false)], args := [d1, d2] }
  | _ => none }
def FnSplitTextWrongFalsely : Prop := fnSplitTextRow.holds Try.pinned (OpenSpec.ofChange fnSplitTextWrong)

/-- 'laws.FnAnchorOf': WHATEVER THE INPUT: true; the input reads as it did. -/
def fnAnchorOfSpec : ChangeSpec := { name := "fnAnchorOf", fn := fun _ => fun
  | [d1, d2, d3] => { results := [.lit (.bool true)], args := [d1, d2, d3] }
  | _ => none }
def fnAnchorOfRow : OpenClaim := { program := "ytmngibfakkfnnaa", sum := "701d4f7dff7d829e9b72140bc5f215f6da4797a4f1563358e20112940b1f6ba3", func := "given.example/pub-quirewright/laws.FnAnchorOf", spec := "fnAnchorOf", apart := false }
def FnAnchorOfSaid : Prop := fnAnchorOfRow.holds Try.pinned (OpenSpec.ofChange fnAnchorOfSpec)

/-- ITS FALSE NEIGHBOUR: 'it returns false'. Refute it at one input. -/
def fnAnchorOfWrong : ChangeSpec := { name := "fnAnchorOf", fn := fun _ => fun
  | [d1, d2, d3] => { results := [.lit (.bool false)], args := [d1, d2, d3] }
  | _ => none }
def FnAnchorOfWrongFalsely : Prop := fnAnchorOfRow.holds Try.pinned (OpenSpec.ofChange fnAnchorOfWrong)

/-- 'laws.FnLines': WHATEVER THE INPUT: true; the input reads as it did. -/
def fnLinesSpec : ChangeSpec := { name := "fnLines", fn := fun _ => fun
  | [d] => { results := [.lit (.bool true)], args := [d] }
  | _ => none }
def fnLinesRow : OpenClaim := { program := "ytmngibfakkfnnaa", sum := "701d4f7dff7d829e9b72140bc5f215f6da4797a4f1563358e20112940b1f6ba3", func := "given.example/pub-quirewright/laws.FnLines", spec := "fnLines", inPlace := ["internal/bytealg.IndexByte"], unfollowed := true, recurses := true, apart := false }
def FnLinesSaid : Prop := fnLinesRow.holds Try.pinned (OpenSpec.ofChange fnLinesSpec)

/-- ITS FALSE NEIGHBOUR: 'it returns false'. Refute it at one input. -/
def fnLinesWrong : ChangeSpec := { name := "fnLines", fn := fun _ => fun
  | [d] => { results := [.lit (.bool false)], args := [d] }
  | _ => none }
def FnLinesWrongFalsely : Prop := fnLinesRow.holds Try.pinned (OpenSpec.ofChange fnLinesWrong)

/- THE SECOND FORM. 'bulk': how many values and letters a reading holds, each counted each time it is reached (what is shared counts as often as it is met; a slice's spare places count too). A statement '..UptoSaid' is the law's where the arguments, and the package variables that the reading takes, are together of bulk at most 1048576: NARROWER than '..Said'. Prove '..Said' where nothing that the law and all that it calls make is longer than what came in: it says more and counts as full. Else prove '..UptoSaid'. A law counts once. -/
mutual
def uptoBulk {H : Type} : DataW H → Nat
  | .lit (.string bytes) => bytes.length + 1
  | .lit _ => 1
  | .nil => 1
  | .ptr d => uptoBulk d + 1
  | .slice elems spare => uptoBulkAll elems + uptoBulkAll spare + 1
  | .agg parts => uptoBulkAll parts + 1
  | .iface _ d => uptoBulk d + 1
  | .map entries => uptoBulkEntries entries + 1
  | .held _ => 1
def uptoBulkAll {H : Type} : List (DataW H) → Nat
  | [] => 0
  | d :: r => uptoBulk d + uptoBulkAll r
def uptoBulkEntries {H : Type} : List (Lit × DataW H) → Nat
  | [] => 0
  | x :: r => uptoBulkEntry x + uptoBulkEntries r
def uptoBulkEntry {H : Type} : Lit × DataW H → Nat
  | (.string bytes, d) => bytes.length + uptoBulk d + 1
  | (_, d) => uptoBulk d + 1
 end
def uptoSmall : (H : Type) → List (DataW H) → Bool := fun _ ds => decide (uptoBulkAll ds ≤ 1048576)
def OpenSpec.upto (s : _root_.Go.ChangeSpec) : _root_.Go.OpenSpec := { _root_.Go.OpenSpec.ofChange s with cond := some uptoSmall }

/-- 'laws.FnOriginOf', WHERE WHAT IT READS IS OF BULK AT MOST 1048576: true; the input reads as it did. -/
def fnOriginOfUptoRow : OpenClaim := { program := "ytmngibfakkfnnaa", sum := "701d4f7dff7d829e9b72140bc5f215f6da4797a4f1563358e20112940b1f6ba3", func := "given.example/pub-quirewright/laws.FnOriginOf", spec := "fnOriginOf", apart := false, narrowed := true }
def FnOriginOfUptoSaid : Prop := fnOriginOfUptoRow.holds Try.pinned (OpenSpec.upto fnOriginOfSpec)

/-- 'laws.FnMembers', WHERE WHAT IT READS IS OF BULK AT MOST 1048576: true; the input reads as it did. -/
def fnMembersUptoRow : OpenClaim := { program := "ytmngibfakkfnnaa", sum := "701d4f7dff7d829e9b72140bc5f215f6da4797a4f1563358e20112940b1f6ba3", func := "given.example/pub-quirewright/laws.FnMembers", spec := "fnMembers", apart := false, narrowed := true }
def FnMembersUptoSaid : Prop := fnMembersUptoRow.holds Try.pinned (OpenSpec.upto fnMembersSpec)

/-- 'laws.FnAnchorName', WHERE WHAT IT READS IS OF BULK AT MOST 1048576: true; the input reads as it did. -/
def fnAnchorNameUptoRow : OpenClaim := { program := "ytmngibfakkfnnaa", sum := "701d4f7dff7d829e9b72140bc5f215f6da4797a4f1563358e20112940b1f6ba3", func := "given.example/pub-quirewright/laws.FnAnchorName", spec := "fnAnchorName", apart := false, narrowed := true }
def FnAnchorNameUptoSaid : Prop := fnAnchorNameUptoRow.holds Try.pinned (OpenSpec.upto fnAnchorNameSpec)

/-- 'laws.FnWestern', WHERE WHAT IT READS IS OF BULK AT MOST 1048576: true; the input reads as it did. -/
def fnWesternUptoRow : OpenClaim := { program := "ytmngibfakkfnnaa", sum := "701d4f7dff7d829e9b72140bc5f215f6da4797a4f1563358e20112940b1f6ba3", func := "given.example/pub-quirewright/laws.FnWestern", spec := "fnWestern", apart := false, narrowed := true }
def FnWesternUptoSaid : Prop := fnWesternUptoRow.holds Try.pinned (OpenSpec.upto fnWesternSpec)

/-- 'laws.FnSplitText', WHERE WHAT IT READS IS OF BULK AT MOST 1048576: true; the input reads as it did. -/
def fnSplitTextUptoRow : OpenClaim := { program := "ytmngibfakkfnnaa", sum := "701d4f7dff7d829e9b72140bc5f215f6da4797a4f1563358e20112940b1f6ba3", func := "given.example/pub-quirewright/laws.FnSplitText", spec := "fnSplitText", unfollowed := true, recurses := true, apart := false, narrowed := true }
def FnSplitTextUptoSaid : Prop := fnSplitTextUptoRow.holds Try.pinned (OpenSpec.upto fnSplitTextSpec)

/-- 'laws.FnAnchorOf', WHERE WHAT IT READS IS OF BULK AT MOST 1048576: true; the input reads as it did. -/
def fnAnchorOfUptoRow : OpenClaim := { program := "ytmngibfakkfnnaa", sum := "701d4f7dff7d829e9b72140bc5f215f6da4797a4f1563358e20112940b1f6ba3", func := "given.example/pub-quirewright/laws.FnAnchorOf", spec := "fnAnchorOf", apart := false, narrowed := true }
def FnAnchorOfUptoSaid : Prop := fnAnchorOfUptoRow.holds Try.pinned (OpenSpec.upto fnAnchorOfSpec)

/-- 'laws.FnLines', WHERE WHAT IT READS IS OF BULK AT MOST 1048576: true; the input reads as it did. -/
def fnLinesUptoRow : OpenClaim := { program := "ytmngibfakkfnnaa", sum := "701d4f7dff7d829e9b72140bc5f215f6da4797a4f1563358e20112940b1f6ba3", func := "given.example/pub-quirewright/laws.FnLines", spec := "fnLines", inPlace := ["internal/bytealg.IndexByte"], unfollowed := true, recurses := true, apart := false, narrowed := true }
def FnLinesUptoSaid : Prop := fnLinesUptoRow.holds Try.pinned (OpenSpec.upto fnLinesSpec)

end Rows
end Go.Proofs.Ytmngibfakkfnnaa
