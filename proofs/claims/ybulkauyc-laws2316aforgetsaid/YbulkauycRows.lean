/-
  No cell of these rows narrows 'for every input' (looked for: loops, veiled, ifaces, maps, wideKeys, modest, calm, conditions, laid).
  DERIVED. THE GIVEN ROWS OF THIS SEAT. 3 by the template 'for every input the law returns true; each argument reads behind the call as it read before'; 0 by the template 'total and deterministic' (their statements: YbulkauycTotals.lean).
  GIVEN WITH THE SEED: the statements are not yours to turn. If you find one false, say at which input.
  Laid BY PROGRAM, IN A SANDBOX (cutbox-rows.mjs): the forced cells as the released guide's own fill.sh prints them over the translation 09001e249bb330cc… (all of the seat's roots in one cut). By AI agents, Wed Nov 11 2026. No macro, syntax, notation, axiom, sorry.
-/
import Derived.Test.YbulkauycChecked
import GoSem.Claim
import GoSem.ClaimJoined
import GoSem.ClaimMapViews
import Derived.JoinedTies
import Derived.KernelRfl
namespace Go.Proofs.Ybulkauyc
/- THE CELL 'sum', in the pinned program and in every row, IS THE sha256 OF THE DUMP (.gsa) THAT YbulkauycProg.lean LOADS. Nothing in Lean hashes anything: it is a label: what it is worth is what the hold of that sum in a sandbox is worth. -/
noncomputable def Yba.pinned : Pinned := { name := "ybulkauyc", sum := "09001e249bb330cccfbeea21a265c5076415f557abdb2e256d1004b4b789c6bb", checked := Yba.checked }
namespace Rows
def none {H : Type} : Left H := { results := [], args := [] }

/-- 'storage.LawS2316AForget': WHATEVER THE INPUT: true; the input reads as it did. -/
def lawS2316AForgetSpec : ChangeSpec := { name := "lawS2316AForget", fn := fun _ => fun
  | [d1, d2, d3, d4, d5] => { results := [.lit (.bool true)], args := [d1, d2, d3, d4, d5] }
  | _ => none }
def lawS2316AForgetRow : OpenClaim := { program := "ybulkauyc", sum := "09001e249bb330cccfbeea21a265c5076415f557abdb2e256d1004b4b789c6bb", func := "example.com/varvestore/varvestore/internal/storage.LawS2316AForget", spec := "lawS2316AForget", plainKeys := false, apart := false }
def LawS2316AForgetSaid : Prop := lawS2316AForgetRow.holds Yba.pinned (OpenSpec.ofChange lawS2316AForgetSpec)

/-- ITS FALSE NEIGHBOUR: 'it returns false'. Refute it at one input. -/
def lawS2316AForgetWrong : ChangeSpec := { name := "lawS2316AForget", fn := fun _ => fun
  | [d1, d2, d3, d4, d5] => { results := [.lit (.bool false)], args := [d1, d2, d3, d4, d5] }
  | _ => none }
def LawS2316AForgetWrongFalsely : Prop := lawS2316AForgetRow.holds Yba.pinned (OpenSpec.ofChange lawS2316AForgetWrong)

/-- 'lineprotocol.LawS2316CExact': WHATEVER THE INPUT: true; the input reads as it did. -/
def lawS2316CExactSpec : ChangeSpec := { name := "lawS2316CExact", fn := fun _ => fun
  | [d1, d2, d3] => { results := [.lit (.bool true)], args := [d1, d2, d3] }
  | _ => none }
def lawS2316CExactRow : OpenClaim := { program := "ybulkauyc", sum := "09001e249bb330cccfbeea21a265c5076415f557abdb2e256d1004b4b789c6bb", func := "example.com/varvestore/varvestore/pkg/lineprotocol.LawS2316CExact", spec := "lawS2316CExact", inPlace := ["internal/abi.NoEscape", "internal/bytealg.IndexByteString"], plainKeys := false, apart := false }
def LawS2316CExactSaid : Prop := lawS2316CExactRow.holds Yba.pinned (OpenSpec.ofChange lawS2316CExactSpec)

/-- ITS FALSE NEIGHBOUR: 'it returns false'. Refute it at one input. -/
def lawS2316CExactWrong : ChangeSpec := { name := "lawS2316CExact", fn := fun _ => fun
  | [d1, d2, d3] => { results := [.lit (.bool false)], args := [d1, d2, d3] }
  | _ => none }
def LawS2316CExactWrongFalsely : Prop := lawS2316CExactRow.holds Yba.pinned (OpenSpec.ofChange lawS2316CExactWrong)

/-- 'lineprotocol.LawS2316CRoundTrip': WHATEVER THE INPUT: true; the input reads as it did. -/
def lawS2316CRoundTripSpec : ChangeSpec := { name := "lawS2316CRoundTrip", fn := fun _ => fun
  | [d1, d2] => { results := [.lit (.bool true)], args := [d1, d2] }
  | _ => none }
def lawS2316CRoundTripRow : OpenClaim := { program := "ybulkauyc", sum := "09001e249bb330cccfbeea21a265c5076415f557abdb2e256d1004b4b789c6bb", func := "example.com/varvestore/varvestore/pkg/lineprotocol.LawS2316CRoundTrip", spec := "lawS2316CRoundTrip", inPlace := ["internal/bytealg.IndexByteString", "internal/abi.NoEscape"], plainKeys := false, apart := false }
def LawS2316CRoundTripSaid : Prop := lawS2316CRoundTripRow.holds Yba.pinned (OpenSpec.ofChange lawS2316CRoundTripSpec)

/-- ITS FALSE NEIGHBOUR: 'it returns false'. Refute it at one input. -/
def lawS2316CRoundTripWrong : ChangeSpec := { name := "lawS2316CRoundTrip", fn := fun _ => fun
  | [d1, d2] => { results := [.lit (.bool false)], args := [d1, d2] }
  | _ => none }
def LawS2316CRoundTripWrongFalsely : Prop := lawS2316CRoundTripRow.holds Yba.pinned (OpenSpec.ofChange lawS2316CRoundTripWrong)

end Rows
end Go.Proofs.Ybulkauyc
