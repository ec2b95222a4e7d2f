/-
  No cell of these rows narrows 'for every input' (looked for: loops, veiled, ifaces, maps, wideKeys, modest, calm, conditions, laid).
  DERIVED. THE GIVEN ROWS OF THIS SEAT. 1 by the template 'for every input the law returns true; each argument reads behind the call as it read before'; 0 by the template 'total and deterministic' (their statements: Qxb6617513aTotals.lean).
  GIVEN WITH THE SEED: the statements are not yours to turn. If you find one false, say at which input.
  Laid BY PROGRAM, IN A SANDBOX (cutbox-rows.mjs): the forced cells as the released guide's own fill.sh prints them over the translation 9fc3a28756150df7… (all of the seat's roots in one cut). By AI agents, Wed Nov 11 2026. No macro, syntax, notation, axiom, sorry.
-/
import Derived.Test.Qxb6617513aChecked
import GoSem.Claim
import GoSem.ClaimJoined
import GoSem.ClaimMapViews
import Derived.JoinedTies
import Derived.KernelRfl
namespace Go.Proofs.Qxb6617513a
/- THE CELL 'sum', in the pinned program and in every row, IS THE sha256 OF THE DUMP (.gsa) THAT Qxb6617513aProg.lean LOADS. Nothing in Lean hashes anything: it is a label: what it is worth is what the hold of that sum in a sandbox is worth. -/
noncomputable def Try.pinned : Pinned := { name := "qxb6617513a", sum := "9fc3a28756150df769914e221e016fbad6a520b7ffd38febeda5b0b22fcb833b", checked := Try.checked }
namespace Rows
def none {H : Type} : Left H := { results := [], args := [] }

/-- 'zzlaws_store_b1.FnInsertColumnsMatchPlaceholders': WHATEVER THE INPUT: true; the input reads as it did. -/
def fnInsertColumnsMatchPlaceholdersSpec : ChangeSpec := { name := "fnInsertColumnsMatchPlaceholders", fn := fun _ => fun
  | [d1, d2, d3, d4, d5] => { results := [.lit (.bool true)], args := [d1, d2, d3, d4, d5] }
  | _ => none }
def fnInsertColumnsMatchPlaceholdersRow : OpenClaim := { program := "qxb6617513a", sum := "9fc3a28756150df769914e221e016fbad6a520b7ffd38febeda5b0b22fcb833b", func := "example.com/boxwood/boxwood/zzlaws_store_b1.FnInsertColumnsMatchPlaceholders", spec := "fnInsertColumnsMatchPlaceholders", apart := false }
def FnInsertColumnsMatchPlaceholdersSaid : Prop := fnInsertColumnsMatchPlaceholdersRow.holds Try.pinned (OpenSpec.ofChange fnInsertColumnsMatchPlaceholdersSpec)

/-- ITS FALSE NEIGHBOUR: 'it returns false'. Refute it at one input. -/
def fnInsertColumnsMatchPlaceholdersWrong : ChangeSpec := { name := "fnInsertColumnsMatchPlaceholders", fn := fun _ => fun
  | [d1, d2, d3, d4, d5] => { results := [.lit (.bool false)], args := [d1, d2, d3, d4, d5] }
  | _ => none }
def FnInsertColumnsMatchPlaceholdersWrongFalsely : Prop := fnInsertColumnsMatchPlaceholdersRow.holds Try.pinned (OpenSpec.ofChange fnInsertColumnsMatchPlaceholdersWrong)

end Rows
end Go.Proofs.Qxb6617513a
