/-
  No cell of these rows narrows 'for every input' (looked for: loops, veiled, ifaces, maps, wideKeys, modest, calm, conditions, laid).
  DERIVED. THE GIVEN ROWS OF THIS SEAT. 3 by the template 'for every input the law returns true; each argument reads behind the call as it read before'; 0 by the template 'total and deterministic' (their statements: Qxb6617364aTotals.lean).
  GIVEN WITH THE SEED: the statements are not yours to turn. If you find one false, say at which input.
  Laid BY PROGRAM, IN A SANDBOX (cutbox-rows.mjs): the forced cells as the released guide's own fill.sh prints them over the translation 869e3ecb09b30d90… (all of the seat's roots in one cut). By AI agents, Wed Nov 11 2026. No macro, syntax, notation, axiom, sorry.
-/
import Derived.Test.Qxb6617364aChecked
import GoSem.Claim
import GoSem.ClaimJoined
import GoSem.ClaimMapViews
import Derived.JoinedTies
import Derived.KernelRfl
namespace Go.Proofs.Qxb6617364a
/- THE CELL 'sum', in the pinned program and in every row, IS THE sha256 OF THE DUMP (.gsa) THAT Qxb6617364aProg.lean LOADS. Nothing in Lean hashes anything: it is a label: what it is worth is what the hold of that sum in a sandbox is worth. -/
noncomputable def Try.pinned : Pinned := { name := "qxb6617364a", sum := "869e3ecb09b30d90932b0c743452b7394922ded907a8147692ee25140767df4e", checked := Try.checked }
namespace Rows
def none {H : Type} : Left H := { results := [], args := [] }

/-- 'zzlaws_internal_folded_b1.FnAppendJoinedSplitsBackIntoFrames': WHATEVER THE INPUT: true; the input reads as it did. -/
def fnAppendJoinedSplitsBackIntoFramesSpec : ChangeSpec := { name := "fnAppendJoinedSplitsBackIntoFrames", fn := fun _ => fun
  | [d1, d2] => { results := [.lit (.bool true)], args := [d1, d2] }
  | _ => none }
def fnAppendJoinedSplitsBackIntoFramesRow : OpenClaim := { program := "qxb6617364a", sum := "869e3ecb09b30d90932b0c743452b7394922ded907a8147692ee25140767df4e", func := "example.com/stackstrobe/stackstrobe/zzlaws_internal_folded_b1.FnAppendJoinedSplitsBackIntoFrames", spec := "fnAppendJoinedSplitsBackIntoFrames", inPlace := ["internal/bytealg.IndexByteString", "internal/bytealg.IndexString"], named := ["internal/bytealg.MaxLen"], apart := false }
def FnAppendJoinedSplitsBackIntoFramesSaid : Prop := fnAppendJoinedSplitsBackIntoFramesRow.holds Try.pinned (OpenSpec.ofChange fnAppendJoinedSplitsBackIntoFramesSpec)

/-- ITS FALSE NEIGHBOUR: 'it returns false'. Refute it at one input. -/
def fnAppendJoinedSplitsBackIntoFramesWrong : ChangeSpec := { name := "fnAppendJoinedSplitsBackIntoFrames", fn := fun _ => fun
  | [d1, d2] => { results := [.lit (.bool false)], args := [d1, d2] }
  | _ => none }
def FnAppendJoinedSplitsBackIntoFramesWrongFalsely : Prop := fnAppendJoinedSplitsBackIntoFramesRow.holds Try.pinned (OpenSpec.ofChange fnAppendJoinedSplitsBackIntoFramesWrong)

/-- 'zzlaws_internal_folded_b1.FnAppendJoinedCutAtAnyFrame': WHATEVER THE INPUT: true; the input reads as it did. -/
def fnAppendJoinedCutAtAnyFrameSpec : ChangeSpec := { name := "fnAppendJoinedCutAtAnyFrame", fn := fun _ => fun
  | [d1, d2, d3] => { results := [.lit (.bool true)], args := [d1, d2, d3] }
  | _ => none }
def fnAppendJoinedCutAtAnyFrameRow : OpenClaim := { program := "qxb6617364a", sum := "869e3ecb09b30d90932b0c743452b7394922ded907a8147692ee25140767df4e", func := "example.com/stackstrobe/stackstrobe/zzlaws_internal_folded_b1.FnAppendJoinedCutAtAnyFrame", spec := "fnAppendJoinedCutAtAnyFrame", inPlace := ["internal/bytealg.IndexByteString", "internal/bytealg.IndexString"], named := ["internal/bytealg.MaxLen"], apart := false }
def FnAppendJoinedCutAtAnyFrameSaid : Prop := fnAppendJoinedCutAtAnyFrameRow.holds Try.pinned (OpenSpec.ofChange fnAppendJoinedCutAtAnyFrameSpec)

/-- ITS FALSE NEIGHBOUR: 'it returns false'. Refute it at one input. -/
def fnAppendJoinedCutAtAnyFrameWrong : ChangeSpec := { name := "fnAppendJoinedCutAtAnyFrame", fn := fun _ => fun
  | [d1, d2, d3] => { results := [.lit (.bool false)], args := [d1, d2, d3] }
  | _ => none }
def FnAppendJoinedCutAtAnyFrameWrongFalsely : Prop := fnAppendJoinedCutAtAnyFrameRow.holds Try.pinned (OpenSpec.ofChange fnAppendJoinedCutAtAnyFrameWrong)

/-- 'zzlaws_internal_folded_b1.FnRoundOddAndScaleFree': WHATEVER THE INPUT: true; the input reads as it did. -/
def fnRoundOddAndScaleFreeSpec : ChangeSpec := { name := "fnRoundOddAndScaleFree", fn := fun _ => fun
  | [d1, d2, d3] => { results := [.lit (.bool true)], args := [d1, d2, d3] }
  | _ => none }
def fnRoundOddAndScaleFreeRow : OpenClaim := { program := "qxb6617364a", sum := "869e3ecb09b30d90932b0c743452b7394922ded907a8147692ee25140767df4e", func := "example.com/stackstrobe/stackstrobe/zzlaws_internal_folded_b1.FnRoundOddAndScaleFree", spec := "fnRoundOddAndScaleFree", apart := false }
def FnRoundOddAndScaleFreeSaid : Prop := fnRoundOddAndScaleFreeRow.holds Try.pinned (OpenSpec.ofChange fnRoundOddAndScaleFreeSpec)

/-- ITS FALSE NEIGHBOUR: 'it returns false'. Refute it at one input. -/
def fnRoundOddAndScaleFreeWrong : ChangeSpec := { name := "fnRoundOddAndScaleFree", fn := fun _ => fun
  | [d1, d2, d3] => { results := [.lit (.bool false)], args := [d1, d2, d3] }
  | _ => none }
def FnRoundOddAndScaleFreeWrongFalsely : Prop := fnRoundOddAndScaleFreeRow.holds Try.pinned (OpenSpec.ofChange fnRoundOddAndScaleFreeWrong)

end Rows
end Go.Proofs.Qxb6617364a
