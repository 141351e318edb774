/-
  No cell of these rows narrows 'for every input' (looked for: loops, veiled, ifaces, maps, wideKeys, modest, calm, conditions, laid).
  DERIVED. THE GIVEN ROWS OF THIS SEAT. 4 by the template 'for every input the law returns true; each argument reads behind the call as it read before'; 0 by the template 'total and deterministic' (their statements: YbulkthgTotals.lean).
  GIVEN WITH THE SEED: the statements are not yours to turn. If you find one false, say at which input.
  Laid BY PROGRAM, IN A SANDBOX (cutbox-rows.mjs): the forced cells as the released guide's own fill.sh prints them over the translation 5423ba99adf25c6d… (all of the seat's roots in one cut). By AI agents, Wed Nov 11 2026. No macro, syntax, notation, axiom, sorry.
-/
import Derived.Test.YbulkthgChecked
import GoSem.Claim
import GoSem.ClaimJoined
import GoSem.ClaimMapViews
import Derived.JoinedTies
import Derived.KernelRfl
namespace Go.Proofs.Ybulkthg
/- THE CELL 'sum', in the pinned program and in every row, IS THE sha256 OF THE DUMP (.gsa) THAT YbulkthgProg.lean LOADS. Nothing in Lean hashes anything: it is a label: what it is worth is what the hold of that sum in a sandbox is worth. -/
noncomputable def Yba.pinned : Pinned := { name := "ybulkthg", sum := "5423ba99adf25c6d5a08219f630a928753c57e43535ebd1929f4c5c17e93b991", checked := Yba.checked }
namespace Rows
def none {H : Type} : Left H := { results := [], args := [] }

/-- 'wire.LawS0981BLayoutMillis': WHATEVER THE INPUT: true; the input reads as it did. -/
def lawS0981BLayoutMillisSpec : ChangeSpec := { name := "lawS0981BLayoutMillis", fn := fun _ => fun
  | [d1, d2, d3, d4, d5, d6, d7] => { results := [.lit (.bool true)], args := [d1, d2, d3, d4, d5, d6, d7] }
  | _ => none }
def lawS0981BLayoutMillisRow : OpenClaim := { program := "ybulkthg", sum := "5423ba99adf25c6d5a08219f630a928753c57e43535ebd1929f4c5c17e93b991", func := "example.com/peerpulse/peerpulse/wire.LawS0981BLayoutMillis", spec := "lawS0981BLayoutMillis", named := ["encoding/binary.BigEndian"], plainKeys := false, apart := false }
def LawS0981BLayoutMillisSaid : Prop := lawS0981BLayoutMillisRow.holds Yba.pinned (OpenSpec.ofChange lawS0981BLayoutMillisSpec)

/-- ITS FALSE NEIGHBOUR: 'it returns false'. Refute it at one input. -/
def lawS0981BLayoutMillisWrong : ChangeSpec := { name := "lawS0981BLayoutMillis", fn := fun _ => fun
  | [d1, d2, d3, d4, d5, d6, d7] => { results := [.lit (.bool false)], args := [d1, d2, d3, d4, d5, d6, d7] }
  | _ => none }
def LawS0981BLayoutMillisWrongFalsely : Prop := lawS0981BLayoutMillisRow.holds Yba.pinned (OpenSpec.ofChange lawS0981BLayoutMillisWrong)

/-- 'wire.LawS0981BLayoutRaw': WHATEVER THE INPUT: true; the input reads as it did. -/
def lawS0981BLayoutRawSpec : ChangeSpec := { name := "lawS0981BLayoutRaw", fn := fun _ => fun
  | [d1, d2, d3, d4, d5] => { results := [.lit (.bool true)], args := [d1, d2, d3, d4, d5] }
  | _ => none }
def lawS0981BLayoutRawRow : OpenClaim := { program := "ybulkthg", sum := "5423ba99adf25c6d5a08219f630a928753c57e43535ebd1929f4c5c17e93b991", func := "example.com/peerpulse/peerpulse/wire.LawS0981BLayoutRaw", spec := "lawS0981BLayoutRaw", named := ["encoding/binary.BigEndian"], plainKeys := false, apart := false }
def LawS0981BLayoutRawSaid : Prop := lawS0981BLayoutRawRow.holds Yba.pinned (OpenSpec.ofChange lawS0981BLayoutRawSpec)

/-- ITS FALSE NEIGHBOUR: 'it returns false'. Refute it at one input. -/
def lawS0981BLayoutRawWrong : ChangeSpec := { name := "lawS0981BLayoutRaw", fn := fun _ => fun
  | [d1, d2, d3, d4, d5] => { results := [.lit (.bool false)], args := [d1, d2, d3, d4, d5] }
  | _ => none }
def LawS0981BLayoutRawWrongFalsely : Prop := lawS0981BLayoutRawRow.holds Yba.pinned (OpenSpec.ofChange lawS0981BLayoutRawWrong)

/-- 'config.LawS0981CIdentity': WHATEVER THE INPUT: true; the input reads as it did. -/
def lawS0981CIdentitySpec : ChangeSpec := { name := "lawS0981CIdentity", fn := fun _ => fun
  | [d] => { results := [.lit (.bool true)], args := [d] }
  | _ => none }
def lawS0981CIdentityRow : OpenClaim := { program := "ybulkthg", sum := "5423ba99adf25c6d5a08219f630a928753c57e43535ebd1929f4c5c17e93b991", func := "example.com/peerpulse/peerpulse/config.LawS0981CIdentity", spec := "lawS0981CIdentity", plainKeys := false, apart := false }
def LawS0981CIdentitySaid : Prop := lawS0981CIdentityRow.holds Yba.pinned (OpenSpec.ofChange lawS0981CIdentitySpec)

/-- ITS FALSE NEIGHBOUR: 'it returns false'. Refute it at one input. -/
def lawS0981CIdentityWrong : ChangeSpec := { name := "lawS0981CIdentity", fn := fun _ => fun
  | [d] => { results := [.lit (.bool false)], args := [d] }
  | _ => none }
def LawS0981CIdentityWrongFalsely : Prop := lawS0981CIdentityRow.holds Yba.pinned (OpenSpec.ofChange lawS0981CIdentityWrong)

/-- 'config.LawS0981CKeepsDefined': WHATEVER THE INPUT: true; the input reads as it did. -/
def lawS0981CKeepsDefinedSpec : ChangeSpec := { name := "lawS0981CKeepsDefined", fn := fun _ => fun
  | [d1, d2] => { results := [.lit (.bool true)], args := [d1, d2] }
  | _ => none }
def lawS0981CKeepsDefinedRow : OpenClaim := { program := "ybulkthg", sum := "5423ba99adf25c6d5a08219f630a928753c57e43535ebd1929f4c5c17e93b991", func := "example.com/peerpulse/peerpulse/config.LawS0981CKeepsDefined", spec := "lawS0981CKeepsDefined", plainKeys := false, apart := false }
def LawS0981CKeepsDefinedSaid : Prop := lawS0981CKeepsDefinedRow.holds Yba.pinned (OpenSpec.ofChange lawS0981CKeepsDefinedSpec)

/-- ITS FALSE NEIGHBOUR: 'it returns false'. Refute it at one input. -/
def lawS0981CKeepsDefinedWrong : ChangeSpec := { name := "lawS0981CKeepsDefined", fn := fun _ => fun
  | [d1, d2] => { results := [.lit (.bool false)], args := [d1, d2] }
  | _ => none }
def LawS0981CKeepsDefinedWrongFalsely : Prop := lawS0981CKeepsDefinedRow.holds Yba.pinned (OpenSpec.ofChange lawS0981CKeepsDefinedWrong)

end Rows
end Go.Proofs.Ybulkthg
