/-
  NARROWER THAN 'FOR EVERY INPUT', by the rows' own cells (each row's printed sentence says how): LawS0884ACount: ifaces, laid.
  DERIVED. THE GIVEN ROWS OF THIS SEAT. 1 by the template 'for every input the law returns true; each argument reads behind the call as it read before'; 0 by the template 'total and deterministic' (their statements: YbulkrhaDoorTotals.lean).
  GIVEN WITH THE SEED: the statements are not yours to turn. If you find one false, say at which input.
  Laid BY PROGRAM, IN A SANDBOX (cutbox-rows.mjs): the forced cells as the released guide's own fill.sh prints them over the translation 1708f00ec492e973… (all of the seat's roots in one cut). By AI agents, Wed Nov 11 2026. No macro, syntax, notation, axiom, sorry.
-/
import Derived.Test.YbulkrhaDoorChecked
import GoSem.Claim
import GoSem.ClaimJoined
import GoSem.ClaimMapViews
import Derived.JoinedTies
import Derived.KernelRfl
namespace Go.Proofs.YbulkrhaDoor
/- THE CELL 'sum', in the pinned program and in every row, IS THE sha256 OF THE DUMP (.gsa) THAT YbulkrhaDoorProg.lean LOADS. Nothing in Lean hashes anything: it is a label: what it is worth is what the hold of that sum in a sandbox is worth. -/
noncomputable def Ybad.pinned : Pinned := { name := "ybulkrhadoor", sum := "1708f00ec492e9733bb9ed16682bf6602318979f00fc7bc7cbb038b92fe35b56", checked := Ybad.checked }
namespace Rows
def none {H : Type} : Left H := { results := [], args := [] }

/- WHAT THE LISTED PACKAGE-LEVEL VARIABLES READ AS WHEN THE CALL BEGINS. Each datum BY PROGRAM (the guide's laid-datum.mjs) off the statement by which the dump's own 'gosem.cut.vars' lays the variable. In a bare row this is a premise. The card (YbulkrhaDoorCards.lean) ties it to the program's text. -/
def laid_example_com_stanchion_stanchion_internal_store_ErrQueueNotFound {H : Type} : DataW H := .iface "*errors.errorString" (.ptr (.agg [.lit (.string [113, 117, 101, 117, 101, 32, 110, 111, 116, 32, 102, 111, 117, 110, 100])]))

/-- 'store.LawS0884ACount': WHATEVER THE INPUT: true; the input reads as it did. -/
def lawS0884ACountSpec : ChangeSpec := { name := "lawS0884ACount", vars := ["example.com/stanchion/stanchion/internal/store.ErrQueueNotFound"], fn := fun _ => fun
  | [d1, d2, d3, g1] => { results := [.lit (.bool true)], args := [d1, d2, d3], vars := [g1] }
  | _ => none }
def lawS0884ACountRow : OpenClaim := { program := "ybulkrhadoor", sum := "1708f00ec492e9733bb9ed16682bf6602318979f00fc7bc7cbb038b92fe35b56", func := "example.com/stanchion/stanchion/internal/store.LawS0884ACount", spec := "lawS0884ACount", inPlace := ["(*internal/sync.Mutex).Lock", "internal/race.Disable", "sync/atomic.CompareAndSwapInt32", "internal/race.Enable", "internal/race.Acquire", "(*internal/sync.Mutex).lockSlow", "internal/sync.runtime_canSpin", "internal/sync.runtime_doSpin", "internal/sync.throw", "internal/sync.runtime_nanotime", "internal/sync.runtime_SemacquireMutex", "sync/atomic.AddInt32", "(*internal/sync.Mutex).Unlock", "internal/race.ReleaseMerge", "(*internal/sync.Mutex).unlockSlow", "internal/sync.fatal", "internal/sync.runtime_Semrelease"], named := ["example.com/stanchion/stanchion/internal/store.ErrQueueNotFound"], ifaces := true, plainKeys := false, apart := false, laid := [("example.com/stanchion/stanchion/internal/store.ErrQueueNotFound", laid_example_com_stanchion_stanchion_internal_store_ErrQueueNotFound)] }
def LawS0884ACountSaid : Prop := lawS0884ACountRow.holds Ybad.pinned (OpenSpec.ofChange lawS0884ACountSpec)

/-- ITS FALSE NEIGHBOUR: 'it returns false'. Refute it at one input. -/
def lawS0884ACountWrong : ChangeSpec := { name := "lawS0884ACount", vars := ["example.com/stanchion/stanchion/internal/store.ErrQueueNotFound"], fn := fun _ => fun
  | [d1, d2, d3, g1] => { results := [.lit (.bool false)], args := [d1, d2, d3], vars := [g1] }
  | _ => none }
def LawS0884ACountWrongFalsely : Prop := lawS0884ACountRow.holds Ybad.pinned (OpenSpec.ofChange lawS0884ACountWrong)

end Rows
end Go.Proofs.YbulkrhaDoor
