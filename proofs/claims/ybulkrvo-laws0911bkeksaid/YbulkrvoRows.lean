/-
  No cell of these rows narrows 'for every input' (looked for: loops, veiled, ifaces, maps, wideKeys, modest, calm, conditions, laid).
  DERIVED. THE GIVEN ROWS OF THIS SEAT. 2 by the template 'for every input the law returns true; each argument reads behind the call as it read before'; 0 by the template 'total and deterministic' (their statements: YbulkrvoTotals.lean).
  GIVEN WITH THE SEED: the statements are not yours to turn. If you find one false, say at which input.
  Laid BY PROGRAM, IN A SANDBOX (cutbox-rows.mjs): the forced cells as the released guide's own fill.sh prints them over the translation fd5c9f34f115f8ac… (all of the seat's roots in one cut). By AI agents, Wed Nov 11 2026. No macro, syntax, notation, axiom, sorry.
-/
import Derived.Test.YbulkrvoChecked
import GoSem.Claim
import GoSem.ClaimJoined
import GoSem.ClaimMapViews
import Derived.JoinedTies
import Derived.KernelRfl
namespace Go.Proofs.Ybulkrvo
/- THE CELL 'sum', in the pinned program and in every row, IS THE sha256 OF THE DUMP (.gsa) THAT YbulkrvoProg.lean LOADS. Nothing in Lean hashes anything: it is a label: what it is worth is what the hold of that sum in a sandbox is worth. -/
noncomputable def Yba.pinned : Pinned := { name := "ybulkrvo", sum := "fd5c9f34f115f8ac9aed0cf29fe5af49193f0525ec6295679f440392453f7af6", checked := Yba.checked }
namespace Rows
def none {H : Type} : Left H := { results := [], args := [] }

/-- 'gcks.LawS0911BKEK': WHATEVER THE INPUT: true; the input reads as it did. -/
def lawS0911BKEKSpec : ChangeSpec := { name := "lawS0911BKEK", fn := fun _ => fun
  | [d1, d2, d3, d4, d5] => { results := [.lit (.bool true)], args := [d1, d2, d3, d4, d5] }
  | _ => none }
def lawS0911BKEKRow : OpenClaim := { program := "ybulkrvo", sum := "fd5c9f34f115f8ac9aed0cf29fe5af49193f0525ec6295679f440392453f7af6", func := "example.com/keelson/keelson/pkg/gcks.LawS0911BKEK", spec := "lawS0911BKEK", plainKeys := false, apart := false }
def LawS0911BKEKSaid : Prop := lawS0911BKEKRow.holds Yba.pinned (OpenSpec.ofChange lawS0911BKEKSpec)

/-- ITS FALSE NEIGHBOUR: 'it returns false'. Refute it at one input. -/
def lawS0911BKEKWrong : ChangeSpec := { name := "lawS0911BKEK", fn := fun _ => fun
  | [d1, d2, d3, d4, d5] => { results := [.lit (.bool false)], args := [d1, d2, d3, d4, d5] }
  | _ => none }
def LawS0911BKEKWrongFalsely : Prop := lawS0911BKEKRow.holds Yba.pinned (OpenSpec.ofChange lawS0911BKEKWrong)

/-- 'gcks.LawS0911BKept': WHATEVER THE INPUT: true; the input reads as it did. -/
def lawS0911BKeptSpec : ChangeSpec := { name := "lawS0911BKept", fn := fun _ => fun
  | [d1, d2, d3, d4, d5] => { results := [.lit (.bool true)], args := [d1, d2, d3, d4, d5] }
  | _ => none }
def lawS0911BKeptRow : OpenClaim := { program := "ybulkrvo", sum := "fd5c9f34f115f8ac9aed0cf29fe5af49193f0525ec6295679f440392453f7af6", func := "example.com/keelson/keelson/pkg/gcks.LawS0911BKept", spec := "lawS0911BKept", plainKeys := false, apart := false }
def LawS0911BKeptSaid : Prop := lawS0911BKeptRow.holds Yba.pinned (OpenSpec.ofChange lawS0911BKeptSpec)

/-- ITS FALSE NEIGHBOUR: 'it returns false'. Refute it at one input. -/
def lawS0911BKeptWrong : ChangeSpec := { name := "lawS0911BKept", fn := fun _ => fun
  | [d1, d2, d3, d4, d5] => { results := [.lit (.bool false)], args := [d1, d2, d3, d4, d5] }
  | _ => none }
def LawS0911BKeptWrongFalsely : Prop := lawS0911BKeptRow.holds Yba.pinned (OpenSpec.ofChange lawS0911BKeptWrong)

end Rows
end Go.Proofs.Ybulkrvo
