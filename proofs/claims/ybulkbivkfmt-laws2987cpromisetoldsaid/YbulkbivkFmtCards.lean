/-
  DERIVED. GIVEN WITH THE SEED: THE CARDS: each row of YbulkbivkFmtRows.lean that lists a variable, with what it lists TIED to the program's text (the seventh form; the later family's looks); each row that meets fmt, with fmt's text TOLD by the authors' own Lean function (tested against real Go, not proved from fmt's source: count such statements apart). THE CARD IS WHAT COUNTS. Prove the row's statement (the work); the ties are given (YbulkbivkFmtTie.lean); close each card by the builder's one call (the guide's Derived/Test/ToyasCard.lean, 'card_holds'). Laid BY PROGRAM, IN A SANDBOX (cutbox-door.mjs). By AI agents, Wed Nov 11 2026. No macro, syntax, notation, axiom, sorry.
-/
import Derived.Test.YbulkbivkFmtRows
import GoSem.ClaimSeven
namespace Go.Proofs.YbulkbivkFmt
namespace Rows

/-- THE TOLD CARD OF 'ballotproof.LawS2987CPromise'. -/
def lawS2987CPromiseCard : Claim7 := { stood := { row := lawS2987CPromiseRow, standIns := [], harness := (true, "df4aa6ec23c2f2530ace162c7e5304c45b92f4948bf0c20c1b66b8f47675c6c2"), looks := false }, told := true, goes := false }
def LawS2987CPromiseToldSaid : Prop := Claim7.holds Ybaf.pinned (.plain (OpenSpec.ofChange lawS2987CPromiseSpec)) lawS2987CPromiseCard
/-- ITS FALSE NEIGHBOUR. Refute it at one input. -/
def LawS2987CPromiseToldWrongFalsely : Prop := Claim7.holds Ybaf.pinned (.plain (OpenSpec.ofChange lawS2987CPromiseWrong)) lawS2987CPromiseCard
end Rows
end Go.Proofs.YbulkbivkFmt
