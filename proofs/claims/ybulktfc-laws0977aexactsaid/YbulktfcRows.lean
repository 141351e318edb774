/-
  No cell of these rows narrows 'for every input' (looked for: loops, veiled, ifaces, maps, wideKeys, modest, calm, conditions, laid).
  DERIVED. THE GIVEN ROWS OF THIS SEAT. 3 by the template 'for every input the law returns true; each argument reads behind the call as it read before'; 0 by the template 'total and deterministic' (their statements: YbulktfcTotals.lean).
  GIVEN WITH THE SEED: the statements are not yours to turn. If you find one false, say at which input.
  Laid BY PROGRAM, IN A SANDBOX (cutbox-rows.mjs): the forced cells as the released guide's own fill.sh prints them over the translation 3fa328b6363f639a… (all of the seat's roots in one cut). By AI agents, Wed Nov 11 2026. No macro, syntax, notation, axiom, sorry.
-/
import Derived.Test.YbulktfcChecked
import GoSem.Claim
import GoSem.ClaimJoined
import GoSem.ClaimMapViews
import Derived.JoinedTies
import Derived.KernelRfl
namespace Go.Proofs.Ybulktfc
/- THE CELL 'sum', in the pinned program and in every row, IS THE sha256 OF THE DUMP (.gsa) THAT YbulktfcProg.lean LOADS. Nothing in Lean hashes anything: it is a label: what it is worth is what the hold of that sum in a sandbox is worth. -/
noncomputable def Yba.pinned : Pinned := { name := "ybulktfc", sum := "3fa328b6363f639aad0286eb951dcb828816297706ea09323b1ef8dc3ed08aed", checked := Yba.checked }
namespace Rows
def none {H : Type} : Left H := { results := [], args := [] }

/-- 'node.LawS0977AExact': WHATEVER THE INPUT: true; the input reads as it did. -/
def lawS0977AExactSpec : ChangeSpec := { name := "lawS0977AExact", fn := fun _ => fun
  | [d1, d2, d3, d4, d5, d6] => { results := [.lit (.bool true)], args := [d1, d2, d3, d4, d5, d6] }
  | _ => none }
def lawS0977AExactRow : OpenClaim := { program := "ybulktfc", sum := "3fa328b6363f639aad0286eb951dcb828816297706ea09323b1ef8dc3ed08aed", func := "example.com/concordat/concordat/internal/node.LawS0977AExact", spec := "lawS0977AExact", apart := false }
def LawS0977AExactSaid : Prop := lawS0977AExactRow.holds Yba.pinned (OpenSpec.ofChange lawS0977AExactSpec)

/-- ITS FALSE NEIGHBOUR: 'it returns false'. Refute it at one input. -/
def lawS0977AExactWrong : ChangeSpec := { name := "lawS0977AExact", fn := fun _ => fun
  | [d1, d2, d3, d4, d5, d6] => { results := [.lit (.bool false)], args := [d1, d2, d3, d4, d5, d6] }
  | _ => none }
def LawS0977AExactWrongFalsely : Prop := lawS0977AExactRow.holds Yba.pinned (OpenSpec.ofChange lawS0977AExactWrong)

/-- 'node.LawS0977AFresh': WHATEVER THE INPUT: true; the input reads as it did. -/
def lawS0977AFreshSpec : ChangeSpec := { name := "lawS0977AFresh", fn := fun _ => fun
  | [d1, d2, d3, d4, d5, d6] => { results := [.lit (.bool true)], args := [d1, d2, d3, d4, d5, d6] }
  | _ => none }
def lawS0977AFreshRow : OpenClaim := { program := "ybulktfc", sum := "3fa328b6363f639aad0286eb951dcb828816297706ea09323b1ef8dc3ed08aed", func := "example.com/concordat/concordat/internal/node.LawS0977AFresh", spec := "lawS0977AFresh", apart := false }
def LawS0977AFreshSaid : Prop := lawS0977AFreshRow.holds Yba.pinned (OpenSpec.ofChange lawS0977AFreshSpec)

/-- ITS FALSE NEIGHBOUR: 'it returns false'. Refute it at one input. -/
def lawS0977AFreshWrong : ChangeSpec := { name := "lawS0977AFresh", fn := fun _ => fun
  | [d1, d2, d3, d4, d5, d6] => { results := [.lit (.bool false)], args := [d1, d2, d3, d4, d5, d6] }
  | _ => none }
def LawS0977AFreshWrongFalsely : Prop := lawS0977AFreshRow.holds Yba.pinned (OpenSpec.ofChange lawS0977AFreshWrong)

/-- 'concordat.LawS0977CValidators': WHATEVER THE INPUT: true; the input reads as it did. -/
def lawS0977CValidatorsSpec : ChangeSpec := { name := "lawS0977CValidators", fn := fun _ => fun
  | [d1, d2, d3] => { results := [.lit (.bool true)], args := [d1, d2, d3] }
  | _ => none }
def lawS0977CValidatorsRow : OpenClaim := { program := "ybulktfc", sum := "3fa328b6363f639aad0286eb951dcb828816297706ea09323b1ef8dc3ed08aed", func := "example.com/concordat/concordat.LawS0977CValidators", spec := "lawS0977CValidators", apart := false }
def LawS0977CValidatorsSaid : Prop := lawS0977CValidatorsRow.holds Yba.pinned (OpenSpec.ofChange lawS0977CValidatorsSpec)

/-- ITS FALSE NEIGHBOUR: 'it returns false'. Refute it at one input. -/
def lawS0977CValidatorsWrong : ChangeSpec := { name := "lawS0977CValidators", fn := fun _ => fun
  | [d1, d2, d3] => { results := [.lit (.bool false)], args := [d1, d2, d3] }
  | _ => none }
def LawS0977CValidatorsWrongFalsely : Prop := lawS0977CValidatorsRow.holds Yba.pinned (OpenSpec.ofChange lawS0977CValidatorsWrong)

end Rows
end Go.Proofs.Ybulktfc
