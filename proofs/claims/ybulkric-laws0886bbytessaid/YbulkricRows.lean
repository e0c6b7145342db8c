/-
  No cell of these rows narrows 'for every input' (looked for: loops, veiled, ifaces, maps, wideKeys, modest, calm, conditions, laid).
  DERIVED. THE GIVEN ROWS OF THIS SEAT. 4 by the template 'for every input the law returns true; each argument reads behind the call as it read before'; 0 by the template 'total and deterministic' (their statements: YbulkricTotals.lean).
  GIVEN WITH THE SEED: the statements are not yours to turn. If you find one false, say at which input.
  Laid BY PROGRAM, IN A SANDBOX (cutbox-rows.mjs): the forced cells as the released guide's own fill.sh prints them over the translation c32cf4325dc09f2b… (all of the seat's roots in one cut). By AI agents, Wed Nov 11 2026. No macro, syntax, notation, axiom, sorry.
-/
import Derived.Test.YbulkricChecked
import GoSem.Claim
import GoSem.ClaimJoined
import GoSem.ClaimMapViews
import Derived.JoinedTies
import Derived.KernelRfl
namespace Go.Proofs.Ybulkric
/- THE CELL 'sum', in the pinned program and in every row, IS THE sha256 OF THE DUMP (.gsa) THAT YbulkricProg.lean LOADS. Nothing in Lean hashes anything: it is a label: what it is worth is what the hold of that sum in a sandbox is worth. -/
noncomputable def Yba.pinned : Pinned := { name := "ybulkric", sum := "c32cf4325dc09f2b3759ebdabe0856632ed52e4ef09ebd5a160f7e5cc1e0f3a2", checked := Yba.checked }
namespace Rows
def none {H : Type} : Left H := { results := [], args := [] }

/-- 'countersign.LawS0886BBytes': WHATEVER THE INPUT: true; the input reads as it did. -/
def lawS0886BBytesSpec : ChangeSpec := { name := "lawS0886BBytes", fn := fun _ => fun
  | [d1, d2] => { results := [.lit (.bool true)], args := [d1, d2] }
  | _ => none }
def lawS0886BBytesRow : OpenClaim := { program := "ybulkric", sum := "c32cf4325dc09f2b3759ebdabe0856632ed52e4ef09ebd5a160f7e5cc1e0f3a2", func := "example.com/countersign/countersign.LawS0886BBytes", spec := "lawS0886BBytes", apart := false }
def LawS0886BBytesSaid : Prop := lawS0886BBytesRow.holds Yba.pinned (OpenSpec.ofChange lawS0886BBytesSpec)

/-- ITS FALSE NEIGHBOUR: 'it returns false'. Refute it at one input. -/
def lawS0886BBytesWrong : ChangeSpec := { name := "lawS0886BBytes", fn := fun _ => fun
  | [d1, d2] => { results := [.lit (.bool false)], args := [d1, d2] }
  | _ => none }
def LawS0886BBytesWrongFalsely : Prop := lawS0886BBytesRow.holds Yba.pinned (OpenSpec.ofChange lawS0886BBytesWrong)

/-- 'countersign.LawS0886BKeyIDIgnored': WHATEVER THE INPUT: true; the input reads as it did. -/
def lawS0886BKeyIDIgnoredSpec : ChangeSpec := { name := "lawS0886BKeyIDIgnored", fn := fun _ => fun
  | [d1, d2] => { results := [.lit (.bool true)], args := [d1, d2] }
  | _ => none }
def lawS0886BKeyIDIgnoredRow : OpenClaim := { program := "ybulkric", sum := "c32cf4325dc09f2b3759ebdabe0856632ed52e4ef09ebd5a160f7e5cc1e0f3a2", func := "example.com/countersign/countersign.LawS0886BKeyIDIgnored", spec := "lawS0886BKeyIDIgnored", apart := false }
def LawS0886BKeyIDIgnoredSaid : Prop := lawS0886BKeyIDIgnoredRow.holds Yba.pinned (OpenSpec.ofChange lawS0886BKeyIDIgnoredSpec)

/-- ITS FALSE NEIGHBOUR: 'it returns false'. Refute it at one input. -/
def lawS0886BKeyIDIgnoredWrong : ChangeSpec := { name := "lawS0886BKeyIDIgnored", fn := fun _ => fun
  | [d1, d2] => { results := [.lit (.bool false)], args := [d1, d2] }
  | _ => none }
def LawS0886BKeyIDIgnoredWrongFalsely : Prop := lawS0886BKeyIDIgnoredRow.holds Yba.pinned (OpenSpec.ofChange lawS0886BKeyIDIgnoredWrong)

/-- 'countersign.LawS0886CMax': WHATEVER THE INPUT: true; the input reads as it did. -/
def lawS0886CMaxSpec : ChangeSpec := { name := "lawS0886CMax", fn := fun _ => fun
  | [d1, d2] => { results := [.lit (.bool true)], args := [d1, d2] }
  | _ => none }
def lawS0886CMaxRow : OpenClaim := { program := "ybulkric", sum := "c32cf4325dc09f2b3759ebdabe0856632ed52e4ef09ebd5a160f7e5cc1e0f3a2", func := "example.com/countersign/countersign.LawS0886CMax", spec := "lawS0886CMax", apart := false }
def LawS0886CMaxSaid : Prop := lawS0886CMaxRow.holds Yba.pinned (OpenSpec.ofChange lawS0886CMaxSpec)

/-- ITS FALSE NEIGHBOUR: 'it returns false'. Refute it at one input. -/
def lawS0886CMaxWrong : ChangeSpec := { name := "lawS0886CMax", fn := fun _ => fun
  | [d1, d2] => { results := [.lit (.bool false)], args := [d1, d2] }
  | _ => none }
def LawS0886CMaxWrongFalsely : Prop := lawS0886CMaxRow.holds Yba.pinned (OpenSpec.ofChange lawS0886CMaxWrong)

/-- 'countersign.LawS0886CUpper': WHATEVER THE INPUT: true; the input reads as it did. -/
def lawS0886CUpperSpec : ChangeSpec := { name := "lawS0886CUpper", fn := fun _ => fun
  | [d1, d2] => { results := [.lit (.bool true)], args := [d1, d2] }
  | _ => none }
def lawS0886CUpperRow : OpenClaim := { program := "ybulkric", sum := "c32cf4325dc09f2b3759ebdabe0856632ed52e4ef09ebd5a160f7e5cc1e0f3a2", func := "example.com/countersign/countersign.LawS0886CUpper", spec := "lawS0886CUpper", apart := false }
def LawS0886CUpperSaid : Prop := lawS0886CUpperRow.holds Yba.pinned (OpenSpec.ofChange lawS0886CUpperSpec)

/-- ITS FALSE NEIGHBOUR: 'it returns false'. Refute it at one input. -/
def lawS0886CUpperWrong : ChangeSpec := { name := "lawS0886CUpper", fn := fun _ => fun
  | [d1, d2] => { results := [.lit (.bool false)], args := [d1, d2] }
  | _ => none }
def LawS0886CUpperWrongFalsely : Prop := lawS0886CUpperRow.holds Yba.pinned (OpenSpec.ofChange lawS0886CUpperWrong)

end Rows
end Go.Proofs.Ybulkric
