/-
  No cell of these rows narrows 'for every input' (looked for: loops, veiled, ifaces, maps, wideKeys, modest, calm, conditions, laid).
  DERIVED. THE GIVEN ROWS OF THIS SEAT. 2 by the template 'for every input the law returns true; each argument reads behind the call as it read before'; 0 by the template 'total and deterministic' (their statements: YbulkefbgTotals.lean).
  GIVEN WITH THE SEED: the statements are not yours to turn. If you find one false, say at which input.
  Laid BY PROGRAM, IN A SANDBOX (cutbox-rows.mjs): the forced cells as the released guide's own fill.sh prints them over the translation d797089287cf26fa… (all of the seat's roots in one cut). By AI agents, Wed Nov 11 2026. No macro, syntax, notation, axiom, sorry.
-/
import Derived.Test.YbulkefbgChecked
import GoSem.Claim
import GoSem.ClaimJoined
import GoSem.ClaimMapViews
import Derived.JoinedTies
import Derived.KernelRfl
namespace Go.Proofs.Ybulkefbg
/- THE CELL 'sum', in the pinned program and in every row, IS THE sha256 OF THE DUMP (.gsa) THAT YbulkefbgProg.lean LOADS. Nothing in Lean hashes anything: it is a label: what it is worth is what the hold of that sum in a sandbox is worth. -/
noncomputable def Yba.pinned : Pinned := { name := "ybulkefbg", sum := "d797089287cf26faf2bdf8e58e408acd33f9a94e8922cbc33b7eeec5af3efb28", checked := Yba.checked }
namespace Rows
def none {H : Type} : Left H := { results := [], args := [] }

/-- 'cairn.LawS6571BWhole': WHATEVER THE INPUT: true; the input reads as it did. -/
def lawS6571BWholeSpec : ChangeSpec := { name := "lawS6571BWhole", fn := fun _ => fun
  | [d1, d2, d3, d4, d5] => { results := [.lit (.bool true)], args := [d1, d2, d3, d4, d5] }
  | _ => none }
def lawS6571BWholeRow : OpenClaim := { program := "ybulkefbg", sum := "d797089287cf26faf2bdf8e58e408acd33f9a94e8922cbc33b7eeec5af3efb28", func := "example.com/cairn/cairn.LawS6571BWhole", spec := "lawS6571BWhole", apart := false }
def LawS6571BWholeSaid : Prop := lawS6571BWholeRow.holds Yba.pinned (OpenSpec.ofChange lawS6571BWholeSpec)

/-- ITS FALSE NEIGHBOUR: 'it returns false'. Refute it at one input. -/
def lawS6571BWholeWrong : ChangeSpec := { name := "lawS6571BWhole", fn := fun _ => fun
  | [d1, d2, d3, d4, d5] => { results := [.lit (.bool false)], args := [d1, d2, d3, d4, d5] }
  | _ => none }
def LawS6571BWholeWrongFalsely : Prop := lawS6571BWholeRow.holds Yba.pinned (OpenSpec.ofChange lawS6571BWholeWrong)

/-- 'cairn.LawS6571BScript': WHATEVER THE INPUT: true; the input reads as it did. -/
def lawS6571BScriptSpec : ChangeSpec := { name := "lawS6571BScript", fn := fun _ => fun
  | [d1, d2, d3] => { results := [.lit (.bool true)], args := [d1, d2, d3] }
  | _ => none }
def lawS6571BScriptRow : OpenClaim := { program := "ybulkefbg", sum := "d797089287cf26faf2bdf8e58e408acd33f9a94e8922cbc33b7eeec5af3efb28", func := "example.com/cairn/cairn.LawS6571BScript", spec := "lawS6571BScript", named := ["encoding/binary.BigEndian"], apart := false }
def LawS6571BScriptSaid : Prop := lawS6571BScriptRow.holds Yba.pinned (OpenSpec.ofChange lawS6571BScriptSpec)

/-- ITS FALSE NEIGHBOUR: 'it returns false'. Refute it at one input. -/
def lawS6571BScriptWrong : ChangeSpec := { name := "lawS6571BScript", fn := fun _ => fun
  | [d1, d2, d3] => { results := [.lit (.bool false)], args := [d1, d2, d3] }
  | _ => none }
def LawS6571BScriptWrongFalsely : Prop := lawS6571BScriptRow.holds Yba.pinned (OpenSpec.ofChange lawS6571BScriptWrong)

end Rows
end Go.Proofs.Ybulkefbg
