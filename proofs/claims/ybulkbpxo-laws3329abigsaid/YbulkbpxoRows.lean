/-
  No cell of these rows narrows 'for every input' (looked for: loops, veiled, ifaces, maps, wideKeys, modest, calm, conditions, laid).
  DERIVED. THE GIVEN ROWS OF THIS SEAT. 2 by the template 'for every input the law returns true; each argument reads behind the call as it read before'; 0 by the template 'total and deterministic' (their statements: YbulkbpxoTotals.lean).
  GIVEN WITH THE SEED: the statements are not yours to turn. If you find one false, say at which input.
  Laid BY PROGRAM, IN A SANDBOX (cutbox-rows.mjs): the forced cells as the released guide's own fill.sh prints them over the translation a20289b409d26114… (all of the seat's roots in one cut). By AI agents, Wed Nov 11 2026. No macro, syntax, notation, axiom, sorry.
-/
import Derived.Test.YbulkbpxoChecked
import GoSem.Claim
import GoSem.ClaimJoined
import GoSem.ClaimMapViews
import Derived.JoinedTies
import Derived.KernelRfl
namespace Go.Proofs.Ybulkbpxo
/- THE CELL 'sum', in the pinned program and in every row, IS THE sha256 OF THE DUMP (.gsa) THAT YbulkbpxoProg.lean LOADS. Nothing in Lean hashes anything: it is a label: what it is worth is what the hold of that sum in a sandbox is worth. -/
noncomputable def Yba.pinned : Pinned := { name := "ybulkbpxo", sum := "a20289b409d261147aa67fb6bc1d724f03e15fba9eb62458e923b8b33e8e1c21", checked := Yba.checked }
namespace Rows
def none {H : Type} : Left H := { results := [], args := [] }

/-- 'decimal.LawS3329ASmall': WHATEVER THE INPUT: true; the input reads as it did. -/
def lawS3329ASmallSpec : ChangeSpec := { name := "lawS3329ASmall", fn := fun _ => fun
  | [d1, d2] => { results := [.lit (.bool true)], args := [d1, d2] }
  | _ => none }
def lawS3329ASmallRow : OpenClaim := { program := "ybulkbpxo", sum := "a20289b409d261147aa67fb6bc1d724f03e15fba9eb62458e923b8b33e8e1c21", func := "example.com/zhaomu/zhaomu/decimal.LawS3329ASmall", spec := "lawS3329ASmall", apart := false }
def LawS3329ASmallSaid : Prop := lawS3329ASmallRow.holds Yba.pinned (OpenSpec.ofChange lawS3329ASmallSpec)

/-- ITS FALSE NEIGHBOUR: 'it returns false'. Refute it at one input. -/
def lawS3329ASmallWrong : ChangeSpec := { name := "lawS3329ASmall", fn := fun _ => fun
  | [d1, d2] => { results := [.lit (.bool false)], args := [d1, d2] }
  | _ => none }
def LawS3329ASmallWrongFalsely : Prop := lawS3329ASmallRow.holds Yba.pinned (OpenSpec.ofChange lawS3329ASmallWrong)

/-- 'decimal.LawS3329ABig': WHATEVER THE INPUT: true; the input reads as it did. -/
def lawS3329ABigSpec : ChangeSpec := { name := "lawS3329ABig", fn := fun _ => fun
  | [d1, d2, d3] => { results := [.lit (.bool true)], args := [d1, d2, d3] }
  | _ => none }
def lawS3329ABigRow : OpenClaim := { program := "ybulkbpxo", sum := "a20289b409d261147aa67fb6bc1d724f03e15fba9eb62458e923b8b33e8e1c21", func := "example.com/zhaomu/zhaomu/decimal.LawS3329ABig", spec := "lawS3329ABig", inPlace := ["math/big.lshVU"], apart := false }
def LawS3329ABigSaid : Prop := lawS3329ABigRow.holds Yba.pinned (OpenSpec.ofChange lawS3329ABigSpec)

/-- ITS FALSE NEIGHBOUR: 'it returns false'. Refute it at one input. -/
def lawS3329ABigWrong : ChangeSpec := { name := "lawS3329ABig", fn := fun _ => fun
  | [d1, d2, d3] => { results := [.lit (.bool false)], args := [d1, d2, d3] }
  | _ => none }
def LawS3329ABigWrongFalsely : Prop := lawS3329ABigRow.holds Yba.pinned (OpenSpec.ofChange lawS3329ABigWrong)

end Rows
end Go.Proofs.Ybulkbpxo
