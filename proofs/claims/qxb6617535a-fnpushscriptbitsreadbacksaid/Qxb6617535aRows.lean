/-
  No cell of these rows narrows 'for every input' (looked for: loops, veiled, ifaces, maps, wideKeys, modest, calm, conditions, laid).
  DERIVED. THE GIVEN ROWS OF THIS SEAT. 1 by the template 'for every input the law returns true; each argument reads behind the call as it read before'; 0 by the template 'total and deterministic' (their statements: Qxb6617535aTotals.lean).
  GIVEN WITH THE SEED: the statements are not yours to turn. If you find one false, say at which input.
  Laid BY PROGRAM, IN A SANDBOX (cutbox-rows.mjs): the forced cells as the released guide's own fill.sh prints them over the translation 71df62c29693d9e0… (all of the seat's roots in one cut). By AI agents, Wed Nov 11 2026. No macro, syntax, notation, axiom, sorry.
-/
import Derived.Test.Qxb6617535aChecked
import GoSem.Claim
import GoSem.ClaimJoined
import GoSem.ClaimMapViews
import Derived.JoinedTies
import Derived.KernelRfl
namespace Go.Proofs.Qxb6617535a
/- THE CELL 'sum', in the pinned program and in every row, IS THE sha256 OF THE DUMP (.gsa) THAT Qxb6617535aProg.lean LOADS. Nothing in Lean hashes anything: it is a label: what it is worth is what the hold of that sum in a sandbox is worth. -/
noncomputable def Try.pinned : Pinned := { name := "qxb6617535a", sum := "71df62c29693d9e0c8d35678723efd2619cf87de6546bd56ac4bcb584d1792bd", checked := Try.checked }
namespace Rows
def none {H : Type} : Left H := { results := [], args := [] }

/-- 'zzlaws_root_b1.FnPushScriptBitsReadBack': WHATEVER THE INPUT: true; the input reads as it did. -/
def fnPushScriptBitsReadBackSpec : ChangeSpec := { name := "fnPushScriptBitsReadBack", fn := fun _ => fun
  | [d1, d2, d3] => { results := [.lit (.bool true)], args := [d1, d2, d3] }
  | _ => none }
def fnPushScriptBitsReadBackRow : OpenClaim := { program := "qxb6617535a", sum := "71df62c29693d9e0c8d35678723efd2619cf87de6546bd56ac4bcb584d1792bd", func := "example.com/meterai/meterai/zzlaws_root_b1.FnPushScriptBitsReadBack", spec := "fnPushScriptBitsReadBack", apart := false }
def FnPushScriptBitsReadBackSaid : Prop := fnPushScriptBitsReadBackRow.holds Try.pinned (OpenSpec.ofChange fnPushScriptBitsReadBackSpec)

/-- ITS FALSE NEIGHBOUR: 'it returns false'. Refute it at one input. -/
def fnPushScriptBitsReadBackWrong : ChangeSpec := { name := "fnPushScriptBitsReadBack", fn := fun _ => fun
  | [d1, d2, d3] => { results := [.lit (.bool false)], args := [d1, d2, d3] }
  | _ => none }
def FnPushScriptBitsReadBackWrongFalsely : Prop := fnPushScriptBitsReadBackRow.holds Try.pinned (OpenSpec.ofChange fnPushScriptBitsReadBackWrong)

end Rows
end Go.Proofs.Qxb6617535a
