/-
  No cell of these rows narrows 'for every input' (looked for: loops, veiled, ifaces, maps, wideKeys, modest, calm, conditions, laid).
  DERIVED. THE GIVEN ROWS OF THIS SEAT. 4 by the template 'for every input the law returns true; each argument reads behind the call as it read before'; 0 by the template 'total and deterministic' (their statements: YbulkrfkTotals.lean).
  GIVEN WITH THE SEED: the statements are not yours to turn. If you find one false, say at which input.
  Laid BY PROGRAM, IN A SANDBOX (cutbox-rows.mjs): the forced cells as the released guide's own fill.sh prints them over the translation e0f4ce060af39597… (all of the seat's roots in one cut). By AI agents, Wed Nov 11 2026. No macro, syntax, notation, axiom, sorry.
-/
import Derived.Test.YbulkrfkChecked
import GoSem.Claim
import GoSem.ClaimJoined
import GoSem.ClaimMapViews
import Derived.JoinedTies
import Derived.KernelRfl
namespace Go.Proofs.Ybulkrfk
/- THE CELL 'sum', in the pinned program and in every row, IS THE sha256 OF THE DUMP (.gsa) THAT YbulkrfkProg.lean LOADS. Nothing in Lean hashes anything: it is a label: what it is worth is what the hold of that sum in a sandbox is worth. -/
noncomputable def Yba.pinned : Pinned := { name := "ybulkrfk", sum := "e0f4ce060af39597fb2585be92e4748e1db6dc8f574725054186651b40f055db", checked := Yba.checked }
namespace Rows
def none {H : Type} : Left H := { results := [], args := [] }

/-- 'ss.LawS0881ASets': WHATEVER THE INPUT: true; the input reads as it did. -/
def lawS0881ASetsSpec : ChangeSpec := { name := "lawS0881ASets", fn := fun _ => fun
  | [d1, d2, d3, d4, d5, d6, d7, d8] => { results := [.lit (.bool true)], args := [d1, d2, d3, d4, d5, d6, d7, d8] }
  | _ => none }
def lawS0881ASetsRow : OpenClaim := { program := "ybulkrfk", sum := "e0f4ce060af39597fb2585be92e4748e1db6dc8f574725054186651b40f055db", func := "example.com/cellgauntlet/cellgauntlet/internal/ss.LawS0881ASets", spec := "lawS0881ASets", apart := false }
def LawS0881ASetsSaid : Prop := lawS0881ASetsRow.holds Yba.pinned (OpenSpec.ofChange lawS0881ASetsSpec)

/-- ITS FALSE NEIGHBOUR: 'it returns false'. Refute it at one input. -/
def lawS0881ASetsWrong : ChangeSpec := { name := "lawS0881ASets", fn := fun _ => fun
  | [d1, d2, d3, d4, d5, d6, d7, d8] => { results := [.lit (.bool false)], args := [d1, d2, d3, d4, d5, d6, d7, d8] }
  | _ => none }
def LawS0881ASetsWrongFalsely : Prop := lawS0881ASetsRow.holds Yba.pinned (OpenSpec.ofChange lawS0881ASetsWrong)

/-- 'ss.LawS0881ARaw': WHATEVER THE INPUT: true; the input reads as it did. -/
def lawS0881ARawSpec : ChangeSpec := { name := "lawS0881ARaw", fn := fun _ => fun
  | [d1, d2, d3] => { results := [.lit (.bool true)], args := [d1, d2, d3] }
  | _ => none }
def lawS0881ARawRow : OpenClaim := { program := "ybulkrfk", sum := "e0f4ce060af39597fb2585be92e4748e1db6dc8f574725054186651b40f055db", func := "example.com/cellgauntlet/cellgauntlet/internal/ss.LawS0881ARaw", spec := "lawS0881ARaw", apart := false }
def LawS0881ARawSaid : Prop := lawS0881ARawRow.holds Yba.pinned (OpenSpec.ofChange lawS0881ARawSpec)

/-- ITS FALSE NEIGHBOUR: 'it returns false'. Refute it at one input. -/
def lawS0881ARawWrong : ChangeSpec := { name := "lawS0881ARaw", fn := fun _ => fun
  | [d1, d2, d3] => { results := [.lit (.bool false)], args := [d1, d2, d3] }
  | _ => none }
def LawS0881ARawWrongFalsely : Prop := lawS0881ARawRow.holds Yba.pinned (OpenSpec.ofChange lawS0881ARawWrong)

/-- 'aka.LawS0881CExact': WHATEVER THE INPUT: true; the input reads as it did. -/
def lawS0881CExactSpec : ChangeSpec := { name := "lawS0881CExact", fn := fun _ => fun
  | [d1, d2, d3] => { results := [.lit (.bool true)], args := [d1, d2, d3] }
  | _ => none }
def lawS0881CExactRow : OpenClaim := { program := "ybulkrfk", sum := "e0f4ce060af39597fb2585be92e4748e1db6dc8f574725054186651b40f055db", func := "example.com/cellgauntlet/cellgauntlet/internal/aka.LawS0881CExact", spec := "lawS0881CExact", inPlace := ["crypto/internal/fips140/alias.AnyOverlap", "crypto/internal/fips140/subtle.xorBytes"], unfollowed := true, recurses := true, apart := false }
def LawS0881CExactSaid : Prop := lawS0881CExactRow.holds Yba.pinned (OpenSpec.ofChange lawS0881CExactSpec)

/-- ITS FALSE NEIGHBOUR: 'it returns false'. Refute it at one input. -/
def lawS0881CExactWrong : ChangeSpec := { name := "lawS0881CExact", fn := fun _ => fun
  | [d1, d2, d3] => { results := [.lit (.bool false)], args := [d1, d2, d3] }
  | _ => none }
def LawS0881CExactWrongFalsely : Prop := lawS0881CExactRow.holds Yba.pinned (OpenSpec.ofChange lawS0881CExactWrong)

/-- 'aka.LawS0881CTemp': WHATEVER THE INPUT: true; the input reads as it did. -/
def lawS0881CTempSpec : ChangeSpec := { name := "lawS0881CTemp", fn := fun _ => fun
  | [d1, d2, d3] => { results := [.lit (.bool true)], args := [d1, d2, d3] }
  | _ => none }
def lawS0881CTempRow : OpenClaim := { program := "ybulkrfk", sum := "e0f4ce060af39597fb2585be92e4748e1db6dc8f574725054186651b40f055db", func := "example.com/cellgauntlet/cellgauntlet/internal/aka.LawS0881CTemp", spec := "lawS0881CTemp", inPlace := ["crypto/internal/fips140/alias.AnyOverlap", "crypto/internal/fips140/subtle.xorBytes"], unfollowed := true, recurses := true, apart := false }
def LawS0881CTempSaid : Prop := lawS0881CTempRow.holds Yba.pinned (OpenSpec.ofChange lawS0881CTempSpec)

/-- ITS FALSE NEIGHBOUR: 'it returns false'. Refute it at one input. -/
def lawS0881CTempWrong : ChangeSpec := { name := "lawS0881CTemp", fn := fun _ => fun
  | [d1, d2, d3] => { results := [.lit (.bool false)], args := [d1, d2, d3] }
  | _ => none }
def LawS0881CTempWrongFalsely : Prop := lawS0881CTempRow.holds Yba.pinned (OpenSpec.ofChange lawS0881CTempWrong)

end Rows
end Go.Proofs.Ybulkrfk
