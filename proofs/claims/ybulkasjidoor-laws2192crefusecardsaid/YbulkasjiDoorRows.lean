/-
  NARROWER THAN 'FOR EVERY INPUT', by the rows' own cells (each row's printed sentence says how): LawS2192CRefuse: ifaces, laid.
  DERIVED. THE GIVEN ROWS OF THIS SEAT. 1 by the template 'for every input the law returns true; each argument reads behind the call as it read before'; 0 by the template 'total and deterministic' (their statements: YbulkasjiDoorTotals.lean).
  GIVEN WITH THE SEED: the statements are not yours to turn. If you find one false, say at which input.
  Laid BY PROGRAM, IN A SANDBOX (cutbox-rows.mjs): the forced cells as the released guide's own fill.sh prints them over the translation af218e32b3ac3df3… (all of the seat's roots in one cut). By AI agents, Wed Nov 11 2026. No macro, syntax, notation, axiom, sorry.
-/
import Derived.Test.YbulkasjiDoorChecked
import GoSem.Claim
import GoSem.ClaimJoined
import GoSem.ClaimMapViews
import Derived.JoinedTies
import Derived.KernelRfl
namespace Go.Proofs.YbulkasjiDoor
/- THE CELL 'sum', in the pinned program and in every row, IS THE sha256 OF THE DUMP (.gsa) THAT YbulkasjiDoorProg.lean LOADS. Nothing in Lean hashes anything: it is a label: what it is worth is what the hold of that sum in a sandbox is worth. -/
noncomputable def Ybad.pinned : Pinned := { name := "ybulkasjidoor", sum := "af218e32b3ac3df3361578b4726024877ee556c000d7db43445bebb0c071e53a", checked := Ybad.checked }
namespace Rows
def none {H : Type} : Left H := { results := [], args := [] }

/- WHAT THE LISTED PACKAGE-LEVEL VARIABLES READ AS WHEN THE CALL BEGINS. Each datum BY PROGRAM (the guide's laid-datum.mjs) off the statement by which the dump's own 'gosem.cut.vars' lays the variable. In a bare row this is a premise. The card (YbulkasjiDoorCards.lean) ties it to the program's text. -/
def laid_example_com_workheist_workheist_ErrClosed {H : Type} : DataW H := .iface "*errors.errorString" (.ptr (.agg [.lit (.string [119, 111, 114, 107, 104, 101, 105, 115, 116, 58, 32, 115, 99, 104, 101, 100, 117, 108, 101, 114, 32, 105, 115, 32, 99, 108, 111, 115, 101, 100])]))

/-- 'workheist.LawS2192CRefuse': WHATEVER THE INPUT: true; the input reads as it did. -/
def lawS2192CRefuseSpec : ChangeSpec := { name := "lawS2192CRefuse", vars := ["example.com/workheist/workheist.ErrClosed"], fn := fun _ => fun
  | [d1, d2, d3, g1] => { results := [.lit (.bool true)], args := [d1, d2, d3], vars := [g1] }
  | _ => none }
def lawS2192CRefuseRow : OpenClaim := { program := "ybulkasjidoor", sum := "af218e32b3ac3df3361578b4726024877ee556c000d7db43445bebb0c071e53a", func := "example.com/workheist/workheist.LawS2192CRefuse", spec := "lawS2192CRefuse", inPlace := ["sync/atomic.StoreInt32", "(*internal/sync.Mutex).Lock", "internal/race.Disable", "sync/atomic.CompareAndSwapInt32", "internal/race.Enable", "internal/race.Acquire", "(*internal/sync.Mutex).lockSlow", "internal/sync.runtime_canSpin", "internal/sync.runtime_doSpin", "internal/sync.throw", "internal/sync.runtime_nanotime", "internal/sync.runtime_SemacquireMutex", "sync/atomic.AddInt32", "(*internal/sync.Mutex).Unlock", "internal/race.ReleaseMerge", "(*internal/sync.Mutex).unlockSlow", "internal/sync.fatal", "internal/sync.runtime_Semrelease", "sync/atomic.LoadInt32"], named := ["example.com/workheist/workheist.ErrClosed"], ifaces := true, apart := false, laid := [("example.com/workheist/workheist.ErrClosed", laid_example_com_workheist_workheist_ErrClosed)] }
def LawS2192CRefuseSaid : Prop := lawS2192CRefuseRow.holds Ybad.pinned (OpenSpec.ofChange lawS2192CRefuseSpec)

/-- ITS FALSE NEIGHBOUR: 'it returns false'. Refute it at one input. -/
def lawS2192CRefuseWrong : ChangeSpec := { name := "lawS2192CRefuse", vars := ["example.com/workheist/workheist.ErrClosed"], fn := fun _ => fun
  | [d1, d2, d3, g1] => { results := [.lit (.bool false)], args := [d1, d2, d3], vars := [g1] }
  | _ => none }
def LawS2192CRefuseWrongFalsely : Prop := lawS2192CRefuseRow.holds Ybad.pinned (OpenSpec.ofChange lawS2192CRefuseWrong)

end Rows
end Go.Proofs.YbulkasjiDoor
