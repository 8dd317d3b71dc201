/-
  No cell of these rows narrows 'for every input' (looked for: loops, veiled, ifaces, maps, wideKeys, modest, calm, conditions, laid).
  DERIVED. THE GIVEN ROWS OF THIS SEAT. 1 by the template 'for every input the law returns true; each argument reads behind the call as it read before'; 0 by the template 'total and deterministic' (their statements: Qxb6617564aTotals.lean).
  GIVEN WITH THE SEED: the statements are not yours to turn. If you find one false, say at which input.
  Laid BY PROGRAM, IN A SANDBOX (cutbox-rows.mjs): the forced cells as the released guide's own fill.sh prints them over the translation c42d437c975972fd… (all of the seat's roots in one cut). By AI agents, Wed Nov 11 2026. No macro, syntax, notation, axiom, sorry.
-/
import Derived.Test.Qxb6617564aChecked
import GoSem.Claim
import GoSem.ClaimJoined
import GoSem.ClaimMapViews
import Derived.JoinedTies
import Derived.KernelRfl
namespace Go.Proofs.Qxb6617564a
/- THE CELL 'sum', in the pinned program and in every row, IS THE sha256 OF THE DUMP (.gsa) THAT Qxb6617564aProg.lean LOADS. Nothing in Lean hashes anything: it is a label: what it is worth is what the hold of that sum in a sandbox is worth. -/
noncomputable def Try.pinned : Pinned := { name := "qxb6617564a", sum := "c42d437c975972fd67a0e2e4bd8335f9e35abae62937bc2ab352ac02b89fe2c9", checked := Try.checked }
namespace Rows
def none {H : Type} : Left H := { results := [], args := [] }

/-- 'zzlaws_pkg_store_b1.FnReleaseStacksFreedNodes': WHATEVER THE INPUT: true; the input reads as it did. -/
def fnReleaseStacksFreedNodesSpec : ChangeSpec := { name := "fnReleaseStacksFreedNodes", fn := fun _ => fun
  | [d1, d2, d3, d4, d5, d6] => { results := [.lit (.bool true)], args := [d1, d2, d3, d4, d5, d6] }
  | _ => none }
def fnReleaseStacksFreedNodesRow : OpenClaim := { program := "qxb6617564a", sum := "c42d437c975972fd67a0e2e4bd8335f9e35abae62937bc2ab352ac02b89fe2c9", func := "example.com/cairnstore/cairnstore/zzlaws_pkg_store_b1.FnReleaseStacksFreedNodes", spec := "fnReleaseStacksFreedNodes", apart := false }
def FnReleaseStacksFreedNodesSaid : Prop := fnReleaseStacksFreedNodesRow.holds Try.pinned (OpenSpec.ofChange fnReleaseStacksFreedNodesSpec)

/-- ITS FALSE NEIGHBOUR: 'it returns false'. Refute it at one input. -/
def fnReleaseStacksFreedNodesWrong : ChangeSpec := { name := "fnReleaseStacksFreedNodes", fn := fun _ => fun
  | [d1, d2, d3, d4, d5, d6] => { results := [.lit (.bool false)], args := [d1, d2, d3, d4, d5, d6] }
  | _ => none }
def FnReleaseStacksFreedNodesWrongFalsely : Prop := fnReleaseStacksFreedNodesRow.holds Try.pinned (OpenSpec.ofChange fnReleaseStacksFreedNodesWrong)

end Rows
end Go.Proofs.Qxb6617564a
