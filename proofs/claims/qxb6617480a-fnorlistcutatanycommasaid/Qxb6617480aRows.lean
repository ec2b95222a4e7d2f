/-
  No cell of these rows narrows 'for every input' (looked for: loops, veiled, ifaces, maps, wideKeys, modest, calm, conditions, laid).
  DERIVED. THE GIVEN ROWS OF THIS SEAT. 1 by the template 'for every input the law returns true; each argument reads behind the call as it read before'; 0 by the template 'total and deterministic' (their statements: Qxb6617480aTotals.lean).
  GIVEN WITH THE SEED: the statements are not yours to turn. If you find one false, say at which input.
  Laid BY PROGRAM, IN A SANDBOX (cutbox-rows.mjs): the forced cells as the released guide's own fill.sh prints them over the translation 336aeb585db8cb2b… (all of the seat's roots in one cut). By AI agents, Wed Nov 11 2026. No macro, syntax, notation, axiom, sorry.
-/
import Derived.Test.Qxb6617480aChecked
import GoSem.Claim
import GoSem.ClaimJoined
import GoSem.ClaimMapViews
import Derived.JoinedTies
import Derived.KernelRfl
namespace Go.Proofs.Qxb6617480a
/- THE CELL 'sum', in the pinned program and in every row, IS THE sha256 OF THE DUMP (.gsa) THAT Qxb6617480aProg.lean LOADS. Nothing in Lean hashes anything: it is a label: what it is worth is what the hold of that sum in a sandbox is worth. -/
noncomputable def Try.pinned : Pinned := { name := "qxb6617480a", sum := "336aeb585db8cb2b5b5c13f7c4c88255320c9eeb961dbbce8eee301921c96a77", checked := Try.checked }
namespace Rows
def none {H : Type} : Left H := { results := [], args := [] }

/-- 'zzlaws_cosem_b1.FnOrListCutAtAnyComma': WHATEVER THE INPUT: true; the input reads as it did. -/
def fnOrListCutAtAnyCommaSpec : ChangeSpec := { name := "fnOrListCutAtAnyComma", fn := fun _ => fun
  | [d1, d2] => { results := [.lit (.bool true)], args := [d1, d2] }
  | _ => none }
def fnOrListCutAtAnyCommaRow : OpenClaim := { program := "qxb6617480a", sum := "336aeb585db8cb2b5b5c13f7c4c88255320c9eeb961dbbce8eee301921c96a77", func := "example.com/horarium/horarium/zzlaws_cosem_b1.FnOrListCutAtAnyComma", spec := "fnOrListCutAtAnyComma", inPlace := ["internal/abi.NoEscape", "internal/bytealg.MakeNoZero"], apart := false }
def FnOrListCutAtAnyCommaSaid : Prop := fnOrListCutAtAnyCommaRow.holds Try.pinned (OpenSpec.ofChange fnOrListCutAtAnyCommaSpec)

/-- ITS FALSE NEIGHBOUR: 'it returns false'. Refute it at one input. -/
def fnOrListCutAtAnyCommaWrong : ChangeSpec := { name := "fnOrListCutAtAnyComma", fn := fun _ => fun
  | [d1, d2] => { results := [.lit (.bool false)], args := [d1, d2] }
  | _ => none }
def FnOrListCutAtAnyCommaWrongFalsely : Prop := fnOrListCutAtAnyCommaRow.holds Try.pinned (OpenSpec.ofChange fnOrListCutAtAnyCommaWrong)

end Rows
end Go.Proofs.Qxb6617480a
