/-
  No cell of these rows narrows 'for every input' (looked for: loops, veiled, ifaces, maps, wideKeys, modest, calm, conditions, laid).
  DERIVED. THE GIVEN ROWS OF THIS SEAT. 2 by the template 'for every input the law returns true; each argument reads behind the call as it read before'; 0 by the template 'total and deterministic' (their statements: Qxb6617344aTotals.lean).
  GIVEN WITH THE SEED: the statements are not yours to turn. If you find one false, say at which input.
  Laid BY PROGRAM, IN A SANDBOX (cutbox-rows.mjs): the forced cells as the released guide's own fill.sh prints them over the translation dfeda69f79948b26… (all of the seat's roots in one cut). By AI agents, Wed Nov 11 2026. No macro, syntax, notation, axiom, sorry.
-/
import Derived.Test.Qxb6617344aChecked
import GoSem.Claim
import GoSem.ClaimJoined
import GoSem.ClaimMapViews
import Derived.JoinedTies
import Derived.KernelRfl
namespace Go.Proofs.Qxb6617344a
/- THE CELL 'sum', in the pinned program and in every row, IS THE sha256 OF THE DUMP (.gsa) THAT Qxb6617344aProg.lean LOADS. Nothing in Lean hashes anything: it is a label: what it is worth is what the hold of that sum in a sandbox is worth. -/
noncomputable def Try.pinned : Pinned := { name := "qxb6617344a", sum := "dfeda69f79948b26c69a1c29f71a66da806709d6f24616ff1cfe48b302d5d169", checked := Try.checked }
namespace Rows
def none {H : Type} : Left H := { results := [], args := [] }

/-- 'zzlaws_pkg_price_b1.FnMagnitudeDistance': WHATEVER THE INPUT: true; the input reads as it did. -/
def fnMagnitudeDistanceSpec : ChangeSpec := { name := "fnMagnitudeDistance", fn := fun _ => fun
  | [d1, d2] => { results := [.lit (.bool true)], args := [d1, d2] }
  | _ => none }
def fnMagnitudeDistanceRow : OpenClaim := { program := "qxb6617344a", sum := "dfeda69f79948b26c69a1c29f71a66da806709d6f24616ff1cfe48b302d5d169", func := "example.com/fairmark/fairmark/zzlaws_pkg_price_b1.FnMagnitudeDistance", spec := "fnMagnitudeDistance", apart := false }
def FnMagnitudeDistanceSaid : Prop := fnMagnitudeDistanceRow.holds Try.pinned (OpenSpec.ofChange fnMagnitudeDistanceSpec)

/-- ITS FALSE NEIGHBOUR: 'it returns false'. Refute it at one input. -/
def fnMagnitudeDistanceWrong : ChangeSpec := { name := "fnMagnitudeDistance", fn := fun _ => fun
  | [d1, d2] => { results := [.lit (.bool false)], args := [d1, d2] }
  | _ => none }
def FnMagnitudeDistanceWrongFalsely : Prop := fnMagnitudeDistanceRow.holds Try.pinned (OpenSpec.ofChange fnMagnitudeDistanceWrong)

/-- 'zzlaws_pkg_price_b1.FnMagnitudeProduct': WHATEVER THE INPUT: true; the input reads as it did. -/
def fnMagnitudeProductSpec : ChangeSpec := { name := "fnMagnitudeProduct", fn := fun _ => fun
  | [d1, d2] => { results := [.lit (.bool true)], args := [d1, d2] }
  | _ => none }
def fnMagnitudeProductRow : OpenClaim := { program := "qxb6617344a", sum := "dfeda69f79948b26c69a1c29f71a66da806709d6f24616ff1cfe48b302d5d169", func := "example.com/fairmark/fairmark/zzlaws_pkg_price_b1.FnMagnitudeProduct", spec := "fnMagnitudeProduct", apart := false }
def FnMagnitudeProductSaid : Prop := fnMagnitudeProductRow.holds Try.pinned (OpenSpec.ofChange fnMagnitudeProductSpec)

/-- ITS FALSE NEIGHBOUR: 'it returns false'. Refute it at one input. -/
def fnMagnitudeProductWrong : ChangeSpec := { name := "fnMagnitudeProduct", fn := fun _ => fun
  | [d1, d2] => { results := [.lit (.bool false)], args := [d1, d2] }
  | _ => none }
def FnMagnitudeProductWrongFalsely : Prop := fnMagnitudeProductRow.holds Try.pinned (OpenSpec.ofChange fnMagnitudeProductWrong)

end Rows
end Go.Proofs.Qxb6617344a
