/-
  No cell of these rows narrows 'for every input' (looked for: loops, veiled, ifaces, maps, wideKeys, modest, calm, conditions, laid).
  DERIVED. THE GIVEN ROWS OF THIS SEAT. 1 by the template 'for every input the law returns true; each argument reads behind the call as it read before'; 0 by the template 'total and deterministic' (their statements: Qxb6617562aTotals.lean).
  GIVEN WITH THE SEED: the statements are not yours to turn. If you find one false, say at which input.
  Laid BY PROGRAM, IN A SANDBOX (cutbox-rows.mjs): the forced cells as the released guide's own fill.sh prints them over the translation 9c79e85a58a630da… (all of the seat's roots in one cut). By AI agents, Wed Nov 11 2026. No macro, syntax, notation, axiom, sorry.
-/
import Derived.Test.Qxb6617562aChecked
import GoSem.Claim
import GoSem.ClaimJoined
import GoSem.ClaimMapViews
import Derived.JoinedTies
import Derived.KernelRfl
namespace Go.Proofs.Qxb6617562a
/- THE CELL 'sum', in the pinned program and in every row, IS THE sha256 OF THE DUMP (.gsa) THAT Qxb6617562aProg.lean LOADS. Nothing in Lean hashes anything: it is a label: what it is worth is what the hold of that sum in a sandbox is worth. -/
noncomputable def Try.pinned : Pinned := { name := "qxb6617562a", sum := "9c79e85a58a630dad98bcdd0c9f50752cd3c2dd3c92daf9aadab10143b711e7a", checked := Try.checked }
namespace Rows
def none {H : Type} : Left H := { results := [], args := [] }

/-- 'zzlaws_store_b1.FnHeardKeepsLatestTickInAnyOrder': WHATEVER THE INPUT: true; the input reads as it did. -/
def fnHeardKeepsLatestTickInAnyOrderSpec : ChangeSpec := { name := "fnHeardKeepsLatestTickInAnyOrder", fn := fun _ => fun
  | [d1, d2, d3, d4, d5, d6, d7] => { results := [.lit (.bool true)], args := [d1, d2, d3, d4, d5, d6, d7] }
  | _ => none }
def fnHeardKeepsLatestTickInAnyOrderRow : OpenClaim := { program := "qxb6617562a", sum := "9c79e85a58a630dad98bcdd0c9f50752cd3c2dd3c92daf9aadab10143b711e7a", func := "example.com/murmurmesh/murmurmesh/zzlaws_store_b1.FnHeardKeepsLatestTickInAnyOrder", spec := "fnHeardKeepsLatestTickInAnyOrder", apart := false }
def FnHeardKeepsLatestTickInAnyOrderSaid : Prop := fnHeardKeepsLatestTickInAnyOrderRow.holds Try.pinned (OpenSpec.ofChange fnHeardKeepsLatestTickInAnyOrderSpec)

/-- ITS FALSE NEIGHBOUR: 'it returns false'. Refute it at one input. -/
def fnHeardKeepsLatestTickInAnyOrderWrong : ChangeSpec := { name := "fnHeardKeepsLatestTickInAnyOrder", fn := fun _ => fun
  | [d1, d2, d3, d4, d5, d6, d7] => { results := [.lit (.bool false)], args := [d1, d2, d3, d4, d5, d6, d7] }
  | _ => none }
def FnHeardKeepsLatestTickInAnyOrderWrongFalsely : Prop := fnHeardKeepsLatestTickInAnyOrderRow.holds Try.pinned (OpenSpec.ofChange fnHeardKeepsLatestTickInAnyOrderWrong)

end Rows
end Go.Proofs.Qxb6617562a
