/-
  No cell of these rows narrows 'for every input' (looked for: loops, veiled, ifaces, maps, wideKeys, modest, calm, conditions, laid).
  DERIVED. THE GIVEN ROWS OF THIS SEAT. 3 by the template 'for every input the law returns true; each argument reads behind the call as it read before'; 0 by the template 'total and deterministic' (their statements: YbulkrxeTotals.lean).
  GIVEN WITH THE SEED: the statements are not yours to turn. If you find one false, say at which input.
  Laid BY PROGRAM, IN A SANDBOX (cutbox-rows.mjs): the forced cells as the released guide's own fill.sh prints them over the translation b97905364862c23b… (all of the seat's roots in one cut). By AI agents, Wed Nov 11 2026. No macro, syntax, notation, axiom, sorry.
-/
import Derived.Test.YbulkrxeChecked
import GoSem.Claim
import GoSem.ClaimJoined
import GoSem.ClaimMapViews
import Derived.JoinedTies
import Derived.KernelRfl
namespace Go.Proofs.Ybulkrxe
/- THE CELL 'sum', in the pinned program and in every row, IS THE sha256 OF THE DUMP (.gsa) THAT YbulkrxeProg.lean LOADS. Nothing in Lean hashes anything: it is a label: what it is worth is what the hold of that sum in a sandbox is worth. -/
noncomputable def Yba.pinned : Pinned := { name := "ybulkrxe", sum := "b97905364862c23bafd46acd9f16e08e4751f673b99357498c3ff90cde40f979", checked := Yba.checked }
namespace Rows
def none {H : Type} : Left H := { results := [], args := [] }

/-- 'bittorrent.LawS0914AExact': WHATEVER THE INPUT: true; the input reads as it did. -/
def lawS0914AExactSpec : ChangeSpec := { name := "lawS0914AExact", fn := fun _ => fun
  | [d1, d2, d3, d4, d5, d6] => { results := [.lit (.bool true)], args := [d1, d2, d3, d4, d5, d6] }
  | _ => none }
def lawS0914AExactRow : OpenClaim := { program := "ybulkrxe", sum := "b97905364862c23bafd46acd9f16e08e4751f673b99357498c3ff90cde40f979", func := "example.com/isthmus/isthmus/bittorrent.LawS0914AExact", spec := "lawS0914AExact", inPlace := ["(*internal/sync.Mutex).Lock", "internal/race.Disable", "sync/atomic.CompareAndSwapInt32", "internal/race.Enable", "internal/race.Acquire", "(*internal/sync.Mutex).lockSlow", "internal/sync.runtime_canSpin", "internal/sync.runtime_doSpin", "internal/sync.throw", "internal/sync.runtime_nanotime", "internal/sync.runtime_SemacquireMutex", "sync/atomic.AddInt32", "(*internal/sync.Mutex).Unlock", "internal/race.ReleaseMerge", "(*internal/sync.Mutex).unlockSlow", "internal/sync.fatal", "internal/sync.runtime_Semrelease"], named := ["encoding/binary.BigEndian"], plainKeys := false, apart := false }
def LawS0914AExactSaid : Prop := lawS0914AExactRow.holds Yba.pinned (OpenSpec.ofChange lawS0914AExactSpec)

/-- ITS FALSE NEIGHBOUR: 'it returns false'. Refute it at one input. -/
def lawS0914AExactWrong : ChangeSpec := { name := "lawS0914AExact", fn := fun _ => fun
  | [d1, d2, d3, d4, d5, d6] => { results := [.lit (.bool false)], args := [d1, d2, d3, d4, d5, d6] }
  | _ => none }
def LawS0914AExactWrongFalsely : Prop := lawS0914AExactRow.holds Yba.pinned (OpenSpec.ofChange lawS0914AExactWrong)

/-- 'bittorrent.LawS0914ATake': WHATEVER THE INPUT: true; the input reads as it did. -/
def lawS0914ATakeSpec : ChangeSpec := { name := "lawS0914ATake", fn := fun _ => fun
  | [d1, d2, d3, d4, d5, d6, d7] => { results := [.lit (.bool true)], args := [d1, d2, d3, d4, d5, d6, d7] }
  | _ => none }
def lawS0914ATakeRow : OpenClaim := { program := "ybulkrxe", sum := "b97905364862c23bafd46acd9f16e08e4751f673b99357498c3ff90cde40f979", func := "example.com/isthmus/isthmus/bittorrent.LawS0914ATake", spec := "lawS0914ATake", inPlace := ["(*internal/sync.Mutex).Lock", "internal/race.Disable", "sync/atomic.CompareAndSwapInt32", "internal/race.Enable", "internal/race.Acquire", "(*internal/sync.Mutex).lockSlow", "internal/sync.runtime_canSpin", "internal/sync.runtime_doSpin", "internal/sync.throw", "internal/sync.runtime_nanotime", "internal/sync.runtime_SemacquireMutex", "sync/atomic.AddInt32", "(*internal/sync.Mutex).Unlock", "internal/race.ReleaseMerge", "(*internal/sync.Mutex).unlockSlow", "internal/sync.fatal", "internal/sync.runtime_Semrelease"], named := ["encoding/binary.BigEndian"], plainKeys := false, apart := false }
def LawS0914ATakeSaid : Prop := lawS0914ATakeRow.holds Yba.pinned (OpenSpec.ofChange lawS0914ATakeSpec)

/-- ITS FALSE NEIGHBOUR: 'it returns false'. Refute it at one input. -/
def lawS0914ATakeWrong : ChangeSpec := { name := "lawS0914ATake", fn := fun _ => fun
  | [d1, d2, d3, d4, d5, d6, d7] => { results := [.lit (.bool false)], args := [d1, d2, d3, d4, d5, d6, d7] }
  | _ => none }
def LawS0914ATakeWrongFalsely : Prop := lawS0914ATakeRow.holds Yba.pinned (OpenSpec.ofChange lawS0914ATakeWrong)

/-- 'gateway.LawS0914CCloseOrder': WHATEVER THE INPUT: true; the input reads as it did. -/
def lawS0914CCloseOrderSpec : ChangeSpec := { name := "lawS0914CCloseOrder", fn := fun _ => fun
  | [d1, d2] => { results := [.lit (.bool true)], args := [d1, d2] }
  | _ => none }
def lawS0914CCloseOrderRow : OpenClaim := { program := "ybulkrxe", sum := "b97905364862c23bafd46acd9f16e08e4751f673b99357498c3ff90cde40f979", func := "example.com/isthmus/isthmus/gateway.LawS0914CCloseOrder", spec := "lawS0914CCloseOrder", unfollowed := true, recurses := true, plainKeys := false, apart := false }
def LawS0914CCloseOrderSaid : Prop := lawS0914CCloseOrderRow.holds Yba.pinned (OpenSpec.ofChange lawS0914CCloseOrderSpec)

/-- ITS FALSE NEIGHBOUR: 'it returns false'. Refute it at one input. -/
def lawS0914CCloseOrderWrong : ChangeSpec := { name := "lawS0914CCloseOrder", fn := fun _ => fun
  | [d1, d2] => { results := [.lit (.bool false)], args := [d1, d2] }
  | _ => none }
def LawS0914CCloseOrderWrongFalsely : Prop := lawS0914CCloseOrderRow.holds Yba.pinned (OpenSpec.ofChange lawS0914CCloseOrderWrong)

end Rows
end Go.Proofs.Ybulkrxe
