/-
  No cell of these rows narrows 'for every input' (looked for: loops, veiled, ifaces, maps, wideKeys, modest, calm, conditions, laid).
  DERIVED. THE GIVEN ROWS OF THIS SEAT. 2 by the template 'for every input the law returns true; each argument reads behind the call as it read before'; 0 by the template 'total and deterministic' (their statements: YbulkrwcTotals.lean).
  GIVEN WITH THE SEED: the statements are not yours to turn. If you find one false, say at which input.
  Laid BY PROGRAM, IN A SANDBOX (cutbox-rows.mjs): the forced cells as the released guide's own fill.sh prints them over the translation c0172c3151ad39e4… (all of the seat's roots in one cut). By AI agents, Wed Nov 11 2026. No macro, syntax, notation, axiom, sorry.
-/
import Derived.Test.YbulkrwcChecked
import GoSem.Claim
import GoSem.ClaimJoined
import GoSem.ClaimMapViews
import Derived.JoinedTies
import Derived.KernelRfl
namespace Go.Proofs.Ybulkrwc
/- THE CELL 'sum', in the pinned program and in every row, IS THE sha256 OF THE DUMP (.gsa) THAT YbulkrwcProg.lean LOADS. Nothing in Lean hashes anything: it is a label: what it is worth is what the hold of that sum in a sandbox is worth. -/
noncomputable def Yba.pinned : Pinned := { name := "ybulkrwc", sum := "c0172c3151ad39e4efa3628a6792371dd276b65d60be58fc85c38c4900ee01d9", checked := Yba.checked }
namespace Rows
def none {H : Type} : Left H := { results := [], args := [] }

/-- 'dotwalk.LawS0912AExact': WHATEVER THE INPUT: true; the input reads as it did. -/
def lawS0912AExactSpec : ChangeSpec := { name := "lawS0912AExact", fn := fun _ => fun
  | [d] => { results := [.lit (.bool true)], args := [d] }
  | _ => none }
def lawS0912AExactRow : OpenClaim := { program := "ybulkrwc", sum := "c0172c3151ad39e4efa3628a6792371dd276b65d60be58fc85c38c4900ee01d9", func := "example.com/dotwalk/dotwalk.LawS0912AExact", spec := "lawS0912AExact", apart := false }
def LawS0912AExactSaid : Prop := lawS0912AExactRow.holds Yba.pinned (OpenSpec.ofChange lawS0912AExactSpec)

/-- ITS FALSE NEIGHBOUR: 'it returns false'. Refute it at one input. -/
def lawS0912AExactWrong : ChangeSpec := { name := "lawS0912AExact", fn := fun _ => fun
  | [d] => { results := [.lit (.bool false)], args := [d] }
  | _ => none }
def LawS0912AExactWrongFalsely : Prop := lawS0912AExactRow.holds Yba.pinned (OpenSpec.ofChange lawS0912AExactWrong)

/-- 'dotwalk.LawS0912ARoundTrip': WHATEVER THE INPUT: true; the input reads as it did. -/
def lawS0912ARoundTripSpec : ChangeSpec := { name := "lawS0912ARoundTrip", fn := fun _ => fun
  | [d] => { results := [.lit (.bool true)], args := [d] }
  | _ => none }
def lawS0912ARoundTripRow : OpenClaim := { program := "ybulkrwc", sum := "c0172c3151ad39e4efa3628a6792371dd276b65d60be58fc85c38c4900ee01d9", func := "example.com/dotwalk/dotwalk.LawS0912ARoundTrip", spec := "lawS0912ARoundTrip", apart := false }
def LawS0912ARoundTripSaid : Prop := lawS0912ARoundTripRow.holds Yba.pinned (OpenSpec.ofChange lawS0912ARoundTripSpec)

/-- ITS FALSE NEIGHBOUR: 'it returns false'. Refute it at one input. -/
def lawS0912ARoundTripWrong : ChangeSpec := { name := "lawS0912ARoundTrip", fn := fun _ => fun
  | [d] => { results := [.lit (.bool false)], args := [d] }
  | _ => none }
def LawS0912ARoundTripWrongFalsely : Prop := lawS0912ARoundTripRow.holds Yba.pinned (OpenSpec.ofChange lawS0912ARoundTripWrong)

end Rows
end Go.Proofs.Ybulkrwc
