/-
  No cell of these rows narrows 'for every input' (looked for: loops, veiled, ifaces, maps, wideKeys, modest, calm, conditions, laid).
  DERIVED. THE GIVEN ROWS OF THIS SEAT. 2 by the template 'for every input the law returns true; each argument reads behind the call as it read before'; 0 by the template 'total and deterministic' (their statements: YbulkavbiTotals.lean).
  GIVEN WITH THE SEED: the statements are not yours to turn. If you find one false, say at which input.
  Laid BY PROGRAM, IN A SANDBOX (cutbox-rows.mjs): the forced cells as the released guide's own fill.sh prints them over the translation 25a89b5d4ba15a2c… (all of the seat's roots in one cut). By AI agents, Wed Nov 11 2026. No macro, syntax, notation, axiom, sorry.
-/
import Derived.Test.YbulkavbiChecked
import GoSem.Claim
import GoSem.ClaimJoined
import GoSem.ClaimMapViews
import Derived.JoinedTies
import Derived.KernelRfl
namespace Go.Proofs.Ybulkavbi
/- THE CELL 'sum', in the pinned program and in every row, IS THE sha256 OF THE DUMP (.gsa) THAT YbulkavbiProg.lean LOADS. Nothing in Lean hashes anything: it is a label: what it is worth is what the hold of that sum in a sandbox is worth. -/
noncomputable def Yba.pinned : Pinned := { name := "ybulkavbi", sum := "25a89b5d4ba15a2c69b3cd5f7505d1873a8afff7c1cc1203e11b40b08b0af979", checked := Yba.checked }
namespace Rows
def none {H : Type} : Left H := { results := [], args := [] }

/-- 'sim.LawS2322ABacking': WHATEVER THE INPUT: true; the input reads as it did. -/
def lawS2322ABackingSpec : ChangeSpec := { name := "lawS2322ABacking", fn := fun _ => fun
  | [d1, d2, d3, d4, d5] => { results := [.lit (.bool true)], args := [d1, d2, d3, d4, d5] }
  | _ => none }
def lawS2322ABackingRow : OpenClaim := { program := "ybulkavbi", sum := "25a89b5d4ba15a2c69b3cd5f7505d1873a8afff7c1cc1203e11b40b08b0af979", func := "example.com/spanmark/spanmark/internal/sim.LawS2322ABacking", spec := "lawS2322ABacking", plainKeys := false, apart := false }
def LawS2322ABackingSaid : Prop := lawS2322ABackingRow.holds Yba.pinned (OpenSpec.ofChange lawS2322ABackingSpec)

/-- ITS FALSE NEIGHBOUR: 'it returns false'. Refute it at one input. -/
def lawS2322ABackingWrong : ChangeSpec := { name := "lawS2322ABacking", fn := fun _ => fun
  | [d1, d2, d3, d4, d5] => { results := [.lit (.bool false)], args := [d1, d2, d3, d4, d5] }
  | _ => none }
def LawS2322ABackingWrongFalsely : Prop := lawS2322ABackingRow.holds Yba.pinned (OpenSpec.ofChange lawS2322ABackingWrong)

/-- 'sim.LawS2322BSettle': WHATEVER THE INPUT: true; the input reads as it did. -/
def lawS2322BSettleSpec : ChangeSpec := { name := "lawS2322BSettle", fn := fun _ => fun
  | [d1, d2, d3, d4] => { results := [.lit (.bool true)], args := [d1, d2, d3, d4] }
  | _ => none }
def lawS2322BSettleRow : OpenClaim := { program := "ybulkavbi", sum := "25a89b5d4ba15a2c69b3cd5f7505d1873a8afff7c1cc1203e11b40b08b0af979", func := "example.com/spanmark/spanmark/internal/sim.LawS2322BSettle", spec := "lawS2322BSettle", unfollowed := true, recurses := true, plainKeys := false, apart := false }
def LawS2322BSettleSaid : Prop := lawS2322BSettleRow.holds Yba.pinned (OpenSpec.ofChange lawS2322BSettleSpec)

/-- ITS FALSE NEIGHBOUR: 'it returns false'. Refute it at one input. -/
def lawS2322BSettleWrong : ChangeSpec := { name := "lawS2322BSettle", fn := fun _ => fun
  | [d1, d2, d3, d4] => { results := [.lit (.bool false)], args := [d1, d2, d3, d4] }
  | _ => none }
def LawS2322BSettleWrongFalsely : Prop := lawS2322BSettleRow.holds Yba.pinned (OpenSpec.ofChange lawS2322BSettleWrong)

end Rows
end Go.Proofs.Ybulkavbi
