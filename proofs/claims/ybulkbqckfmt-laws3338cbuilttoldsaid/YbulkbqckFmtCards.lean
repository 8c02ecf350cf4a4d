/-
  DERIVED. GIVEN WITH THE SEED: THE CARDS: each row of YbulkbqckFmtRows.lean that lists a variable, with what it lists TIED to the program's text (the seventh form; the later family's looks); each row that meets fmt, with fmt's text TOLD by the authors' own Lean function (tested against real Go, not proved from fmt's source: count such statements apart). THE CARD IS WHAT COUNTS. Prove the row's statement (the work); the ties are given (YbulkbqckFmtTie.lean); close each card by the builder's one call (the guide's Derived/Test/ToyasCard.lean, 'card_holds'). Laid BY PROGRAM, IN A SANDBOX (cutbox-door.mjs). By AI agents, Wed Nov 11 2026. No macro, syntax, notation, axiom, sorry.
-/
import Derived.Test.YbulkbqckFmtRows
import GoSem.ClaimSeven
namespace Go.Proofs.YbulkbqckFmt
namespace Rows

/-- THE TOLD CARD OF 'quorum.LawS3338CBuilt'. -/
def lawS3338CBuiltCard : Claim7 := { stood := { row := lawS3338CBuiltRow, standIns := [], harness := (true, "83c2535db157bce98fdc043f8610f20cf052ffc1722e46c438595a7ad1d1a322"), looks := false }, told := true, goes := false }
def LawS3338CBuiltToldSaid : Prop := Claim7.holds Ybaf.pinned (.plain (OpenSpec.ofChange lawS3338CBuiltSpec)) lawS3338CBuiltCard
/-- ITS FALSE NEIGHBOUR. Refute it at one input. -/
def LawS3338CBuiltToldWrongFalsely : Prop := Claim7.holds Ybaf.pinned (.plain (OpenSpec.ofChange lawS3338CBuiltWrong)) lawS3338CBuiltCard
end Rows
end Go.Proofs.YbulkbqckFmt
