/-
  No cell of these rows narrows 'for every input' (looked for: loops, veiled, ifaces, maps, wideKeys, modest, calm, conditions, laid).
  DERIVED. THE GIVEN ROWS OF THIS SEAT. 1 by the template 'for every input the law returns true; each argument reads behind the call as it read before'; 0 by the template 'total and deterministic' (their statements: YbulkavdmTotals.lean).
  GIVEN WITH THE SEED: the statements are not yours to turn. If you find one false, say at which input.
  Laid BY PROGRAM, IN A SANDBOX (cutbox-rows.mjs): the forced cells as the released guide's own fill.sh prints them over the translation 385a57b086e639dc… (all of the seat's roots in one cut). By AI agents, Wed Nov 11 2026. No macro, syntax, notation, axiom, sorry.
-/
import Derived.Test.YbulkavdmChecked
import GoSem.Claim
import GoSem.ClaimJoined
import GoSem.ClaimMapViews
import Derived.JoinedTies
import Derived.KernelRfl
namespace Go.Proofs.Ybulkavdm
/- THE CELL 'sum', in the pinned program and in every row, IS THE sha256 OF THE DUMP (.gsa) THAT YbulkavdmProg.lean LOADS. Nothing in Lean hashes anything: it is a label: what it is worth is what the hold of that sum in a sandbox is worth. -/
noncomputable def Yba.pinned : Pinned := { name := "ybulkavdm", sum := "385a57b086e639dcc80b1eb74972d6a7a8eacb1bbf9f1ed876cd4fc48b80ac9d", checked := Yba.checked }
namespace Rows
def none {H : Type} : Left H := { results := [], args := [] }

/-- 'ue.LawS2326BSetsT3246': WHATEVER THE INPUT: true; the input reads as it did. -/
def lawS2326BSetsT3246Spec : ChangeSpec := { name := "lawS2326BSetsT3246", fn := fun _ => fun
  | [d1, d2, d3, d4, d5, d6, d7] => { results := [.lit (.bool true)], args := [d1, d2, d3, d4, d5, d6, d7] }
  | _ => none }
def lawS2326BSetsT3246Row : OpenClaim := { program := "ybulkavdm", sum := "385a57b086e639dcc80b1eb74972d6a7a8eacb1bbf9f1ed876cd4fc48b80ac9d", func := "example.com/cellattest/cellattest/internal/ue.LawS2326BSetsT3246", spec := "lawS2326BSetsT3246", unfollowed := true, recurses := true, apart := false }
def LawS2326BSetsT3246Said : Prop := lawS2326BSetsT3246Row.holds Yba.pinned (OpenSpec.ofChange lawS2326BSetsT3246Spec)

/-- ITS FALSE NEIGHBOUR: 'it returns false'. Refute it at one input. -/
def lawS2326BSetsT3246Wrong : ChangeSpec := { name := "lawS2326BSetsT3246", fn := fun _ => fun
  | [d1, d2, d3, d4, d5, d6, d7] => { results := [.lit (.bool false)], args := [d1, d2, d3, d4, d5, d6, d7] }
  | _ => none }
def LawS2326BSetsT3246WrongFalsely : Prop := lawS2326BSetsT3246Row.holds Yba.pinned (OpenSpec.ofChange lawS2326BSetsT3246Wrong)

end Rows
end Go.Proofs.Ybulkavdm
