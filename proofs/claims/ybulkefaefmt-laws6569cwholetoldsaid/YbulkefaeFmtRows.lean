/-
  NARROWER THAN 'FOR EVERY INPUT', by the rows' own cells (each row's printed sentence says how): LawS6569CWhole: ifaces, laid.
  DERIVED. THE GIVEN ROWS OF THIS SEAT. 1 by the template 'for every input the law returns true; each argument reads behind the call as it read before'; 0 by the template 'total and deterministic' (their statements: YbulkefaeFmtTotals.lean).
  GIVEN WITH THE SEED: the statements are not yours to turn. If you find one false, say at which input.
  Laid BY PROGRAM, IN A SANDBOX (cutbox-rows.mjs): the forced cells as the released guide's own fill.sh prints them over the translation f08c316a98b07e61… (all of the seat's roots in one cut). By AI agents, Wed Nov 11 2026. No macro, syntax, notation, axiom, sorry.
-/
import Derived.Test.YbulkefaeFmtChecked
import GoSem.Claim
import GoSem.ClaimJoined
import GoSem.ClaimMapViews
import Derived.JoinedTies
import Derived.KernelRfl
namespace Go.Proofs.YbulkefaeFmt
/- THE CELL 'sum', in the pinned program and in every row, IS THE sha256 OF THE DUMP (.gsa) THAT YbulkefaeFmtProg.lean LOADS. Nothing in Lean hashes anything: it is a label: what it is worth is what the hold of that sum in a sandbox is worth. -/
noncomputable def Ybaf.pinned : Pinned := { name := "ybulkefaefmt", sum := "f08c316a98b07e6141cd215dc7695a4fdfc1924d7ff2da9c94abd56231cf8398", checked := Ybaf.checked }
namespace Rows
def none {H : Type} : Left H := { results := [], args := [] }

/- WHAT THE LISTED PACKAGE-LEVEL VARIABLES READ AS WHEN THE CALL BEGINS. Each datum BY PROGRAM (the guide's laid-datum.mjs) off the statement by which the dump's own 'gosem.cut.vars' lays the variable. In a bare row this is a premise. The card (YbulkefaeFmtCards.lean) ties it to the program's text. -/
def laid_unicode_White_Space {H : Type} : DataW H := .ptr (.agg [.slice [.agg [.lit (.int .u16 9), .lit (.int .u16 13), .lit (.int .u16 1)], .agg [.lit (.int .u16 32), .lit (.int .u16 133), .lit (.int .u16 101)], .agg [.lit (.int .u16 160), .lit (.int .u16 5760), .lit (.int .u16 5600)], .agg [.lit (.int .u16 8192), .lit (.int .u16 8202), .lit (.int .u16 1)], .agg [.lit (.int .u16 8232), .lit (.int .u16 8233), .lit (.int .u16 1)], .agg [.lit (.int .u16 8239), .lit (.int .u16 8287), .lit (.int .u16 48)], .agg [.lit (.int .u16 12288), .lit (.int .u16 12288), .lit (.int .u16 1)]] [], .nil, .lit (.int .i64 2)])
def laid_example_com_causeway_causeway_internal_wire_ErrCutShort {H : Type} : DataW H := .iface "*errors.errorString" (.ptr (.agg [.lit (.string [116, 104, 101, 32, 101, 110, 99, 111, 100, 105, 110, 103, 32, 105, 115, 32, 99, 117, 116, 32, 115, 104, 111, 114, 116])]))
def laid_example_com_causeway_causeway_internal_wire_errTooLarge {H : Type} : DataW H := .iface "*errors.errorString" (.ptr (.agg [.lit (.string [97, 32, 110, 117, 109, 98, 101, 114, 32, 100, 111, 101, 115, 32, 110, 111, 116, 32, 102, 105, 116, 32, 105, 110, 32, 54, 52, 32, 98, 105, 116, 115])]))

/-- 'causeway.LawS6569CWhole': WHATEVER THE INPUT: true; the input reads as it did. -/
def lawS6569CWholeSpec : ChangeSpec := { name := "lawS6569CWhole", vars := ["example.com/causeway/causeway/internal/wire.ErrCutShort", "example.com/causeway/causeway/internal/wire.errTooLarge"], fn := fun _ => fun
  | [d1, d2, d3, d4, g1, g2] => { results := [.lit (.bool true)], args := [d1, d2, d3, d4], vars := [g1, g2] }
  | _ => none }
def lawS6569CWholeRow : OpenClaim := { program := "ybulkefaefmt", sum := "f08c316a98b07e6141cd215dc7695a4fdfc1924d7ff2da9c94abd56231cf8398", func := "example.com/causeway/causeway.LawS6569CWhole", spec := "lawS6569CWhole", stops := ["fmt.errorf"], inPlace := ["fmt.errorf"], unfollowed := true, recurses := true, named := ["example.com/causeway/causeway/internal/wire.ErrCutShort", "example.com/causeway/causeway/internal/wire.errTooLarge", "unicode.White_Space"], ifaces := true, apart := false, laid := [("unicode.White_Space", laid_unicode_White_Space), ("example.com/causeway/causeway/internal/wire.ErrCutShort", laid_example_com_causeway_causeway_internal_wire_ErrCutShort), ("example.com/causeway/causeway/internal/wire.errTooLarge", laid_example_com_causeway_causeway_internal_wire_errTooLarge)] }
/-- NO THEOREM (fmt's text is open here; it may be false): for the released tool's asking of the row's closed facts alone. THE STATEMENT IS 'LawS6569CWholeToldSaid' (YbulkefaeFmtCards.lean). -/
def LawS6569CWholeFormAsk : Prop := lawS6569CWholeRow.holds Ybaf.pinned (OpenSpec.ofChange lawS6569CWholeSpec)

/-- ITS FALSE NEIGHBOUR: 'it returns false'. Refute it at one input. -/
def lawS6569CWholeWrong : ChangeSpec := { name := "lawS6569CWhole", vars := ["example.com/causeway/causeway/internal/wire.ErrCutShort", "example.com/causeway/causeway/internal/wire.errTooLarge"], fn := fun _ => fun
  | [d1, d2, d3, d4, g1, g2] => { results := [.lit (.bool false)], args := [d1, d2, d3, d4], vars := [g1, g2] }
  | _ => none }
def LawS6569CWholeWrongFormAsk : Prop := lawS6569CWholeRow.holds Ybaf.pinned (OpenSpec.ofChange lawS6569CWholeWrong)

end Rows
end Go.Proofs.YbulkefaeFmt
