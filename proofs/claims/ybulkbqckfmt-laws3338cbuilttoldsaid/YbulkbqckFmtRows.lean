/-
  No cell of these rows narrows 'for every input' (looked for: loops, veiled, ifaces, maps, wideKeys, modest, calm, conditions, laid).
  DERIVED. THE GIVEN ROWS OF THIS SEAT. 1 by the template 'for every input the law returns true; each argument reads behind the call as it read before'; 0 by the template 'total and deterministic' (their statements: YbulkbqckFmtTotals.lean).
  GIVEN WITH THE SEED: the statements are not yours to turn. If you find one false, say at which input.
  Laid BY PROGRAM, IN A SANDBOX (cutbox-rows.mjs): the forced cells as the released guide's own fill.sh prints them over the translation 335e81495e7a4ed7… (all of the seat's roots in one cut). By AI agents, Wed Nov 11 2026. No macro, syntax, notation, axiom, sorry.
-/
import Derived.Test.YbulkbqckFmtChecked
import GoSem.Claim
import GoSem.ClaimJoined
import GoSem.ClaimMapViews
import Derived.JoinedTies
import Derived.KernelRfl
namespace Go.Proofs.YbulkbqckFmt
/- THE CELL 'sum', in the pinned program and in every row, IS THE sha256 OF THE DUMP (.gsa) THAT YbulkbqckFmtProg.lean LOADS. Nothing in Lean hashes anything: it is a label: what it is worth is what the hold of that sum in a sandbox is worth. -/
noncomputable def Ybaf.pinned : Pinned := { name := "ybulkbqckfmt", sum := "335e81495e7a4ed7e47d8effe1912c2dd317d2825539321ef3bb897494b349d0", checked := Ybaf.checked }
namespace Rows
def none {H : Type} : Left H := { results := [], args := [] }

/-- 'quorum.LawS3338CBuilt': WHATEVER THE INPUT: true; the input reads as it did. -/
def lawS3338CBuiltSpec : ChangeSpec := { name := "lawS3338CBuilt", fn := fun _ => fun
  | [d1, d2, d3] => { results := [.lit (.bool true)], args := [d1, d2, d3] }
  | _ => none }
def lawS3338CBuiltRow : OpenClaim := { program := "ybulkbqckfmt", sum := "335e81495e7a4ed7e47d8effe1912c2dd317d2825539321ef3bb897494b349d0", func := "example.com/quorumproof/quorumproof/quorum.LawS3338CBuilt", spec := "lawS3338CBuilt", stops := ["fmt.errorf"], inPlace := ["math/bits.Add64", "fmt.errorf"], apart := false }
/-- NO THEOREM (fmt's text is open here; it may be false): for the released tool's asking of the row's closed facts alone. THE STATEMENT IS 'LawS3338CBuiltToldSaid' (YbulkbqckFmtCards.lean). -/
def LawS3338CBuiltFormAsk : Prop := lawS3338CBuiltRow.holds Ybaf.pinned (OpenSpec.ofChange lawS3338CBuiltSpec)

/-- ITS FALSE NEIGHBOUR: 'it returns false'. Refute it at one input. -/
def lawS3338CBuiltWrong : ChangeSpec := { name := "lawS3338CBuilt", fn := fun _ => fun
  | [d1, d2, d3] => { results := [.lit (.bool false)], args := [d1, d2, d3] }
  | _ => none }
def LawS3338CBuiltWrongFormAsk : Prop := lawS3338CBuiltRow.holds Ybaf.pinned (OpenSpec.ofChange lawS3338CBuiltWrong)

end Rows
end Go.Proofs.YbulkbqckFmt
