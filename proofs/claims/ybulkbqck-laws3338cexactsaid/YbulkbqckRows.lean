/-
  No cell of these rows narrows 'for every input' (looked for: loops, veiled, ifaces, maps, wideKeys, modest, calm, conditions, laid).
  DERIVED. THE GIVEN ROWS OF THIS SEAT. 1 by the template 'for every input the law returns true; each argument reads behind the call as it read before'; 0 by the template 'total and deterministic' (their statements: YbulkbqckTotals.lean).
  GIVEN WITH THE SEED: the statements are not yours to turn. If you find one false, say at which input.
  Laid BY PROGRAM, IN A SANDBOX (cutbox-rows.mjs): the forced cells as the released guide's own fill.sh prints them over the translation d7fffdd9ba869c08… (all of the seat's roots in one cut). By AI agents, Wed Nov 11 2026. No macro, syntax, notation, axiom, sorry.
-/
import Derived.Test.YbulkbqckChecked
import GoSem.Claim
import GoSem.ClaimJoined
import GoSem.ClaimMapViews
import Derived.JoinedTies
import Derived.KernelRfl
namespace Go.Proofs.Ybulkbqck
/- THE CELL 'sum', in the pinned program and in every row, IS THE sha256 OF THE DUMP (.gsa) THAT YbulkbqckProg.lean LOADS. Nothing in Lean hashes anything: it is a label: what it is worth is what the hold of that sum in a sandbox is worth. -/
noncomputable def Yba.pinned : Pinned := { name := "ybulkbqck", sum := "d7fffdd9ba869c08a670618249aaf252759ddbb53df2a453d188b630f83665db", checked := Yba.checked }
namespace Rows
def none {H : Type} : Left H := { results := [], args := [] }

/-- 'quorum.LawS3338CExact': WHATEVER THE INPUT: true; the input reads as it did. -/
def lawS3338CExactSpec : ChangeSpec := { name := "lawS3338CExact", fn := fun _ => fun
  | [d1, d2, d3] => { results := [.lit (.bool true)], args := [d1, d2, d3] }
  | _ => none }
def lawS3338CExactRow : OpenClaim := { program := "ybulkbqck", sum := "d7fffdd9ba869c08a670618249aaf252759ddbb53df2a453d188b630f83665db", func := "example.com/quorumproof/quorumproof/quorum.LawS3338CExact", spec := "lawS3338CExact", inPlace := ["math/bits.Add64"], apart := false }
def LawS3338CExactSaid : Prop := lawS3338CExactRow.holds Yba.pinned (OpenSpec.ofChange lawS3338CExactSpec)

/-- ITS FALSE NEIGHBOUR: 'it returns false'. Refute it at one input. -/
def lawS3338CExactWrong : ChangeSpec := { name := "lawS3338CExact", fn := fun _ => fun
  | [d1, d2, d3] => { results := [.lit (.bool false)], args := [d1, d2, d3] }
  | _ => none }
def LawS3338CExactWrongFalsely : Prop := lawS3338CExactRow.holds Yba.pinned (OpenSpec.ofChange lawS3338CExactWrong)

end Rows
end Go.Proofs.Ybulkbqck
