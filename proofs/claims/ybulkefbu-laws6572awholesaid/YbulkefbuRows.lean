/-
  No cell of these rows narrows 'for every input' (looked for: loops, veiled, ifaces, maps, wideKeys, modest, calm, conditions, laid).
  DERIVED. THE GIVEN ROWS OF THIS SEAT. 3 by the template 'for every input the law returns true; each argument reads behind the call as it read before'; 0 by the template 'total and deterministic' (their statements: YbulkefbuTotals.lean).
  GIVEN WITH THE SEED: the statements are not yours to turn. If you find one false, say at which input.
  Laid BY PROGRAM, IN A SANDBOX (cutbox-rows.mjs): the forced cells as the released guide's own fill.sh prints them over the translation ac70bfc7cd861eab… (all of the seat's roots in one cut). By AI agents, Wed Nov 11 2026. No macro, syntax, notation, axiom, sorry.
-/
import Derived.Test.YbulkefbuChecked
import GoSem.Claim
import GoSem.ClaimJoined
import GoSem.ClaimMapViews
import Derived.JoinedTies
import Derived.KernelRfl
namespace Go.Proofs.Ybulkefbu
/- THE CELL 'sum', in the pinned program and in every row, IS THE sha256 OF THE DUMP (.gsa) THAT YbulkefbuProg.lean LOADS. Nothing in Lean hashes anything: it is a label: what it is worth is what the hold of that sum in a sandbox is worth. -/
noncomputable def Yba.pinned : Pinned := { name := "ybulkefbu", sum := "ac70bfc7cd861eabdf8c27e814895592886b2a1fa0e9ee280d243d0f48b0259e", checked := Yba.checked }
namespace Rows
def none {H : Type} : Left H := { results := [], args := [] }

/-- 'bankcsv.LawS6572AWhole': WHATEVER THE INPUT: true; the input reads as it did. -/
def lawS6572AWholeSpec : ChangeSpec := { name := "lawS6572AWhole", fn := fun _ => fun
  | [d] => { results := [.lit (.bool true)], args := [d] }
  | _ => none }
def lawS6572AWholeRow : OpenClaim := { program := "ybulkefbu", sum := "ac70bfc7cd861eabdf8c27e814895592886b2a1fa0e9ee280d243d0f48b0259e", func := "example.com/counterfoil/counterfoil/internal/bankcsv.LawS6572AWhole", spec := "lawS6572AWhole", inPlace := ["internal/abi.NoEscape", "internal/bytealg.MakeNoZero"], apart := false }
def LawS6572AWholeSaid : Prop := lawS6572AWholeRow.holds Yba.pinned (OpenSpec.ofChange lawS6572AWholeSpec)

/-- ITS FALSE NEIGHBOUR: 'it returns false'. Refute it at one input. -/
def lawS6572AWholeWrong : ChangeSpec := { name := "lawS6572AWhole", fn := fun _ => fun
  | [d] => { results := [.lit (.bool false)], args := [d] }
  | _ => none }
def LawS6572AWholeWrongFalsely : Prop := lawS6572AWholeRow.holds Yba.pinned (OpenSpec.ofChange lawS6572AWholeWrong)

/-- 'counterfoil.LawS6572BPart': WHATEVER THE INPUT: true; the input reads as it did. -/
def lawS6572BPartSpec : ChangeSpec := { name := "lawS6572BPart", fn := fun _ => fun
  | [d1, d2] => { results := [.lit (.bool true)], args := [d1, d2] }
  | _ => none }
def lawS6572BPartRow : OpenClaim := { program := "ybulkefbu", sum := "ac70bfc7cd861eabdf8c27e814895592886b2a1fa0e9ee280d243d0f48b0259e", func := "example.com/counterfoil/counterfoil.LawS6572BPart", spec := "lawS6572BPart", unfollowed := true, recurses := true, apart := false }
def LawS6572BPartSaid : Prop := lawS6572BPartRow.holds Yba.pinned (OpenSpec.ofChange lawS6572BPartSpec)

/-- ITS FALSE NEIGHBOUR: 'it returns false'. Refute it at one input. -/
def lawS6572BPartWrong : ChangeSpec := { name := "lawS6572BPart", fn := fun _ => fun
  | [d1, d2] => { results := [.lit (.bool false)], args := [d1, d2] }
  | _ => none }
def LawS6572BPartWrongFalsely : Prop := lawS6572BPartRow.holds Yba.pinned (OpenSpec.ofChange lawS6572BPartWrong)

/-- 'counterfoil.LawS6572CWhole': WHATEVER THE INPUT: true; the input reads as it did. -/
def lawS6572CWholeSpec : ChangeSpec := { name := "lawS6572CWhole", fn := fun _ => fun
  | [d1, d2] => { results := [.lit (.bool true)], args := [d1, d2] }
  | _ => none }
def lawS6572CWholeRow : OpenClaim := { program := "ybulkefbu", sum := "ac70bfc7cd861eabdf8c27e814895592886b2a1fa0e9ee280d243d0f48b0259e", func := "example.com/counterfoil/counterfoil.LawS6572CWhole", spec := "lawS6572CWhole", unfollowed := true, recurses := true, apart := false }
def LawS6572CWholeSaid : Prop := lawS6572CWholeRow.holds Yba.pinned (OpenSpec.ofChange lawS6572CWholeSpec)

/-- ITS FALSE NEIGHBOUR: 'it returns false'. Refute it at one input. -/
def lawS6572CWholeWrong : ChangeSpec := { name := "lawS6572CWhole", fn := fun _ => fun
  | [d1, d2] => { results := [.lit (.bool false)], args := [d1, d2] }
  | _ => none }
def LawS6572CWholeWrongFalsely : Prop := lawS6572CWholeRow.holds Yba.pinned (OpenSpec.ofChange lawS6572CWholeWrong)

end Rows
end Go.Proofs.Ybulkefbu
