/-
  No cell of these rows narrows 'for every input' (looked for: loops, veiled, ifaces, maps, wideKeys, modest, calm, conditions, laid).
  DERIVED. THE GIVEN ROWS OF THIS SEAT. 1 by the template 'for every input the law returns true; each argument reads behind the call as it read before'; 0 by the template 'total and deterministic' (their statements: YbulkefasTotals.lean).
  GIVEN WITH THE SEED: the statements are not yours to turn. If you find one false, say at which input.
  Laid BY PROGRAM, IN A SANDBOX (cutbox-rows.mjs): the forced cells as the released guide's own fill.sh prints them over the translation f29a0b313bb37f93… (all of the seat's roots in one cut). By AI agents, Wed Nov 11 2026. No macro, syntax, notation, axiom, sorry.
-/
import Derived.Test.YbulkefasChecked
import GoSem.Claim
import GoSem.ClaimJoined
import GoSem.ClaimMapViews
import Derived.JoinedTies
import Derived.KernelRfl
namespace Go.Proofs.Ybulkefas
/- THE CELL 'sum', in the pinned program and in every row, IS THE sha256 OF THE DUMP (.gsa) THAT YbulkefasProg.lean LOADS. Nothing in Lean hashes anything: it is a label: what it is worth is what the hold of that sum in a sandbox is worth. -/
noncomputable def Yba.pinned : Pinned := { name := "ybulkefas", sum := "f29a0b313bb37f93c1f9321ad66c669e01fb0ff74b8c2d54ca48cc5261d4d798", checked := Yba.checked }
namespace Rows
def none {H : Type} : Left H := { results := [], args := [] }

/-- 'date.LawS6570AWhole': WHATEVER THE INPUT: true; the input reads as it did. -/
def lawS6570AWholeSpec : ChangeSpec := { name := "lawS6570AWhole", fn := fun _ => fun
  | [d1, d2, d3, d4, d5] => { results := [.lit (.bool true)], args := [d1, d2, d3, d4, d5] }
  | _ => none }
def lawS6570AWholeRow : OpenClaim := { program := "ybulkefas", sum := "f29a0b313bb37f93c1f9321ad66c669e01fb0ff74b8c2d54ca48cc5261d4d798", func := "example.com/plancodex/plancodex/internal/date.LawS6570AWhole", spec := "lawS6570AWhole", apart := false }
def LawS6570AWholeSaid : Prop := lawS6570AWholeRow.holds Yba.pinned (OpenSpec.ofChange lawS6570AWholeSpec)

/-- ITS FALSE NEIGHBOUR: 'it returns false'. Refute it at one input. -/
def lawS6570AWholeWrong : ChangeSpec := { name := "lawS6570AWhole", fn := fun _ => fun
  | [d1, d2, d3, d4, d5] => { results := [.lit (.bool false)], args := [d1, d2, d3, d4, d5] }
  | _ => none }
def LawS6570AWholeWrongFalsely : Prop := lawS6570AWholeRow.holds Yba.pinned (OpenSpec.ofChange lawS6570AWholeWrong)

end Rows
end Go.Proofs.Ybulkefas
