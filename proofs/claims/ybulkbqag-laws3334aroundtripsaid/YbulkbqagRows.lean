/-
  No cell of these rows narrows 'for every input' (looked for: loops, veiled, ifaces, maps, wideKeys, modest, calm, conditions, laid).
  DERIVED. THE GIVEN ROWS OF THIS SEAT. 2 by the template 'for every input the law returns true; each argument reads behind the call as it read before'; 0 by the template 'total and deterministic' (their statements: YbulkbqagTotals.lean).
  GIVEN WITH THE SEED: the statements are not yours to turn. If you find one false, say at which input.
  Laid BY PROGRAM, IN A SANDBOX (cutbox-rows.mjs): the forced cells as the released guide's own fill.sh prints them over the translation 1efd7f408016b32a… (all of the seat's roots in one cut). By AI agents, Wed Nov 11 2026. No macro, syntax, notation, axiom, sorry.
-/
import Derived.Test.YbulkbqagChecked
import GoSem.Claim
import GoSem.ClaimJoined
import GoSem.ClaimMapViews
import Derived.JoinedTies
import Derived.KernelRfl
namespace Go.Proofs.Ybulkbqag
/- THE CELL 'sum', in the pinned program and in every row, IS THE sha256 OF THE DUMP (.gsa) THAT YbulkbqagProg.lean LOADS. Nothing in Lean hashes anything: it is a label: what it is worth is what the hold of that sum in a sandbox is worth. -/
noncomputable def Yba.pinned : Pinned := { name := "ybulkbqag", sum := "1efd7f408016b32a4478549d75f4f86dc1c1adaa86c662a40771018d0c806f5e", checked := Yba.checked }
namespace Rows
def none {H : Type} : Left H := { results := [], args := [] }

/-- 'crosswind.LawS3334AModel': WHATEVER THE INPUT: true; the input reads as it did. -/
def lawS3334AModelSpec : ChangeSpec := { name := "lawS3334AModel", fn := fun _ => fun
  | [d1, d2, d3] => { results := [.lit (.bool true)], args := [d1, d2, d3] }
  | _ => none }
def lawS3334AModelRow : OpenClaim := { program := "ybulkbqag", sum := "1efd7f408016b32a4478549d75f4f86dc1c1adaa86c662a40771018d0c806f5e", func := "example.com/crosswind/crosswind.LawS3334AModel", spec := "lawS3334AModel", apart := false }
def LawS3334AModelSaid : Prop := lawS3334AModelRow.holds Yba.pinned (OpenSpec.ofChange lawS3334AModelSpec)

/-- ITS FALSE NEIGHBOUR: 'it returns false'. Refute it at one input. -/
def lawS3334AModelWrong : ChangeSpec := { name := "lawS3334AModel", fn := fun _ => fun
  | [d1, d2, d3] => { results := [.lit (.bool false)], args := [d1, d2, d3] }
  | _ => none }
def LawS3334AModelWrongFalsely : Prop := lawS3334AModelRow.holds Yba.pinned (OpenSpec.ofChange lawS3334AModelWrong)

/-- 'crosswind.LawS3334ARoundTrip': WHATEVER THE INPUT: true; the input reads as it did. -/
def lawS3334ARoundTripSpec : ChangeSpec := { name := "lawS3334ARoundTrip", fn := fun _ => fun
  | [d1, d2] => { results := [.lit (.bool true)], args := [d1, d2] }
  | _ => none }
def lawS3334ARoundTripRow : OpenClaim := { program := "ybulkbqag", sum := "1efd7f408016b32a4478549d75f4f86dc1c1adaa86c662a40771018d0c806f5e", func := "example.com/crosswind/crosswind.LawS3334ARoundTrip", spec := "lawS3334ARoundTrip", apart := false }
def LawS3334ARoundTripSaid : Prop := lawS3334ARoundTripRow.holds Yba.pinned (OpenSpec.ofChange lawS3334ARoundTripSpec)

/-- ITS FALSE NEIGHBOUR: 'it returns false'. Refute it at one input. -/
def lawS3334ARoundTripWrong : ChangeSpec := { name := "lawS3334ARoundTrip", fn := fun _ => fun
  | [d1, d2] => { results := [.lit (.bool false)], args := [d1, d2] }
  | _ => none }
def LawS3334ARoundTripWrongFalsely : Prop := lawS3334ARoundTripRow.holds Yba.pinned (OpenSpec.ofChange lawS3334ARoundTripWrong)

end Rows
end Go.Proofs.Ybulkbqag
