/-
  NARROWER THAN 'FOR EVERY INPUT', by the rows' own cells (each row's printed sentence says how): LawS2321AModel: ifaces, laid · LawS2321AReform: ifaces, laid.
  DERIVED. THE GIVEN ROWS OF THIS SEAT. 2 by the template 'for every input the law returns true; each argument reads behind the call as it read before'; 0 by the template 'total and deterministic' (their statements: YbulkavauFmtTotals.lean).
  GIVEN WITH THE SEED: the statements are not yours to turn. If you find one false, say at which input.
  Laid BY PROGRAM, IN A SANDBOX (cutbox-rows.mjs): the forced cells as the released guide's own fill.sh prints them over the translation c7e1ee815b7362a8… (all of the seat's roots in one cut). By AI agents, Wed Nov 11 2026. No macro, syntax, notation, axiom, sorry.
-/
import Derived.Test.YbulkavauFmtChecked
import GoSem.Claim
import GoSem.ClaimJoined
import GoSem.ClaimMapViews
import Derived.JoinedTies
import Derived.KernelRfl
namespace Go.Proofs.YbulkavauFmt
/- THE CELL 'sum', in the pinned program and in every row, IS THE sha256 OF THE DUMP (.gsa) THAT YbulkavauFmtProg.lean LOADS. Nothing in Lean hashes anything: it is a label: what it is worth is what the hold of that sum in a sandbox is worth. -/
noncomputable def Ybaf.pinned : Pinned := { name := "ybulkavaufmt", sum := "c7e1ee815b7362a8e40035974d2b5d490b7249bf91ee6efebae582bc94fa3a58", checked := Ybaf.checked }
namespace Rows
def none {H : Type} : Left H := { results := [], args := [] }

/- WHAT THE LISTED PACKAGE-LEVEL VARIABLES READ AS WHEN THE CALL BEGINS. Each datum BY PROGRAM (the guide's laid-datum.mjs) off the statement by which the dump's own 'gosem.cut.vars' lays the variable. In a bare row this is a premise. The card (YbulkavauFmtCards.lean) ties it to the program's text. -/
def laid_example_com_armillary_armillary_ErrOutOfRange {H : Type} : DataW H := .iface "*errors.errorString" (.ptr (.agg [.lit (.string [118, 97, 108, 117, 101, 32, 111, 117, 116, 32, 111, 102, 32, 114, 97, 110, 103, 101])]))
def laid_example_com_armillary_armillary_ErrNoSuchDate {H : Type} : DataW H := .iface "*errors.errorString" (.ptr (.agg [.lit (.string [100, 97, 116, 101, 32, 100, 111, 101, 115, 32, 110, 111, 116, 32, 101, 120, 105, 115, 116, 32, 105, 110, 32, 105, 116, 115, 32, 99, 97, 108, 101, 110, 100, 97, 114])]))

/-- 'armillary.LawS2321AModel': WHATEVER THE INPUT: true; the input reads as it did. -/
def lawS2321AModelSpec : ChangeSpec := { name := "lawS2321AModel", vars := ["example.com/armillary/armillary.ErrOutOfRange", "example.com/armillary/armillary.ErrNoSuchDate"], fn := fun _ => fun
  | [d1, d2, d3, g1, g2] => { results := [.lit (.bool true)], args := [d1, d2, d3], vars := [g1, g2] }
  | _ => none }
def lawS2321AModelRow : OpenClaim := { program := "ybulkavaufmt", sum := "c7e1ee815b7362a8e40035974d2b5d490b7249bf91ee6efebae582bc94fa3a58", func := "example.com/armillary/armillary.LawS2321AModel", spec := "lawS2321AModel", stops := ["fmt.errorf, its operands' methods called", "fmt.Sprintf"], inPlace := ["fmt.errorf", "internal/reflectlite.TypeOf"], unfollowed := true, recurses := true, named := ["example.com/armillary/armillary.ErrOutOfRange", "example.com/armillary/armillary.ErrNoSuchDate"], ifaces := true, apart := false, laid := [("example.com/armillary/armillary.ErrOutOfRange", laid_example_com_armillary_armillary_ErrOutOfRange), ("example.com/armillary/armillary.ErrNoSuchDate", laid_example_com_armillary_armillary_ErrNoSuchDate)] }
/-- NO THEOREM (fmt's text is open here; it may be false): for the released tool's asking of the row's closed facts alone. THE STATEMENT IS 'LawS2321AModelToldSaid' (YbulkavauFmtCards.lean). -/
def LawS2321AModelFormAsk : Prop := lawS2321AModelRow.holds Ybaf.pinned (OpenSpec.ofChange lawS2321AModelSpec)

/-- ITS FALSE NEIGHBOUR: 'it returns false'. Refute it at one input. -/
def lawS2321AModelWrong : ChangeSpec := { name := "lawS2321AModel", vars := ["example.com/armillary/armillary.ErrOutOfRange", "example.com/armillary/armillary.ErrNoSuchDate"], fn := fun _ => fun
  | [d1, d2, d3, g1, g2] => { results := [.lit (.bool false)], args := [d1, d2, d3], vars := [g1, g2] }
  | _ => none }
def LawS2321AModelWrongFormAsk : Prop := lawS2321AModelRow.holds Ybaf.pinned (OpenSpec.ofChange lawS2321AModelWrong)

/-- 'armillary.LawS2321AReform': WHATEVER THE INPUT: true; the input reads as it did. -/
def lawS2321AReformSpec : ChangeSpec := { name := "lawS2321AReform", vars := ["example.com/armillary/armillary.ErrOutOfRange", "example.com/armillary/armillary.ErrNoSuchDate"], fn := fun _ => fun
  | [d1, d2, d3, g1, g2] => { results := [.lit (.bool true)], args := [d1, d2, d3], vars := [g1, g2] }
  | _ => none }
def lawS2321AReformRow : OpenClaim := { program := "ybulkavaufmt", sum := "c7e1ee815b7362a8e40035974d2b5d490b7249bf91ee6efebae582bc94fa3a58", func := "example.com/armillary/armillary.LawS2321AReform", spec := "lawS2321AReform", stops := ["fmt.errorf, its operands' methods called", "fmt.Sprintf"], inPlace := ["fmt.errorf", "internal/reflectlite.TypeOf"], unfollowed := true, recurses := true, named := ["example.com/armillary/armillary.ErrOutOfRange", "example.com/armillary/armillary.ErrNoSuchDate"], ifaces := true, apart := false, laid := [("example.com/armillary/armillary.ErrOutOfRange", laid_example_com_armillary_armillary_ErrOutOfRange), ("example.com/armillary/armillary.ErrNoSuchDate", laid_example_com_armillary_armillary_ErrNoSuchDate)] }
/-- NO THEOREM (fmt's text is open here; it may be false): for the released tool's asking of the row's closed facts alone. THE STATEMENT IS 'LawS2321AReformToldSaid' (YbulkavauFmtCards.lean). -/
def LawS2321AReformFormAsk : Prop := lawS2321AReformRow.holds Ybaf.pinned (OpenSpec.ofChange lawS2321AReformSpec)

/-- ITS FALSE NEIGHBOUR: 'it returns false'. Refute it at one input. -/
def lawS2321AReformWrong : ChangeSpec := { name := "lawS2321AReform", vars := ["example.com/armillary/armillary.ErrOutOfRange", "example.com/armillary/armillary.ErrNoSuchDate"], fn := fun _ => fun
  | [d1, d2, d3, g1, g2] => { results := [.lit (.bool false)], args := [d1, d2, d3], vars := [g1, g2] }
  | _ => none }
def LawS2321AReformWrongFormAsk : Prop := lawS2321AReformRow.holds Ybaf.pinned (OpenSpec.ofChange lawS2321AReformWrong)

end Rows
end Go.Proofs.YbulkavauFmt
