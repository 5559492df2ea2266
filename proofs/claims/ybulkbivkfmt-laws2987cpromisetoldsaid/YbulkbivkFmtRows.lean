/-
  No cell of these rows narrows 'for every input' (looked for: loops, veiled, ifaces, maps, wideKeys, modest, calm, conditions, laid).
  DERIVED. THE GIVEN ROWS OF THIS SEAT. 1 by the template 'for every input the law returns true; each argument reads behind the call as it read before'; 0 by the template 'total and deterministic' (their statements: YbulkbivkFmtTotals.lean).
  GIVEN WITH THE SEED: the statements are not yours to turn. If you find one false, say at which input.
  Laid BY PROGRAM, IN A SANDBOX (cutbox-rows.mjs): the forced cells as the released guide's own fill.sh prints them over the translation 27d1af2cb717e4f6… (all of the seat's roots in one cut). By AI agents, Wed Nov 11 2026. No macro, syntax, notation, axiom, sorry.
-/
import Derived.Test.YbulkbivkFmtChecked
import GoSem.Claim
import GoSem.ClaimJoined
import GoSem.ClaimMapViews
import Derived.JoinedTies
import Derived.KernelRfl
namespace Go.Proofs.YbulkbivkFmt
/- THE CELL 'sum', in the pinned program and in every row, IS THE sha256 OF THE DUMP (.gsa) THAT YbulkbivkFmtProg.lean LOADS. Nothing in Lean hashes anything: it is a label: what it is worth is what the hold of that sum in a sandbox is worth. -/
noncomputable def Ybaf.pinned : Pinned := { name := "ybulkbivkfmt", sum := "27d1af2cb717e4f6d8674accf67867016baae8cdc39e21db259cb6193c1a4666", checked := Ybaf.checked }
namespace Rows
def none {H : Type} : Left H := { results := [], args := [] }

/-- 'ballotproof.LawS2987CPromise': WHATEVER THE INPUT: true; the input reads as it did. -/
def lawS2987CPromiseSpec : ChangeSpec := { name := "lawS2987CPromise", fn := fun _ => fun
  | [d1, d2, d3, d4, d5, d6] => { results := [.lit (.bool true)], args := [d1, d2, d3, d4, d5, d6] }
  | _ => none }
def lawS2987CPromiseRow : OpenClaim := { program := "ybulkbivkfmt", sum := "27d1af2cb717e4f6d8674accf67867016baae8cdc39e21db259cb6193c1a4666", func := "example.com/ballotproof/ballotproof.LawS2987CPromise", spec := "lawS2987CPromise", stops := ["fmt.errorf"], inPlace := ["fmt.errorf"], unfollowed := true, recurses := true, apart := false }
/-- NO THEOREM (fmt's text is open here; it may be false): for the released tool's asking of the row's closed facts alone. THE STATEMENT IS 'LawS2987CPromiseToldSaid' (YbulkbivkFmtCards.lean). -/
def LawS2987CPromiseFormAsk : Prop := lawS2987CPromiseRow.holds Ybaf.pinned (OpenSpec.ofChange lawS2987CPromiseSpec)

/-- ITS FALSE NEIGHBOUR: 'it returns false'. Refute it at one input. -/
def lawS2987CPromiseWrong : ChangeSpec := { name := "lawS2987CPromise", fn := fun _ => fun
  | [d1, d2, d3, d4, d5, d6] => { results := [.lit (.bool false)], args := [d1, d2, d3, d4, d5, d6] }
  | _ => none }
def LawS2987CPromiseWrongFormAsk : Prop := lawS2987CPromiseRow.holds Ybaf.pinned (OpenSpec.ofChange lawS2987CPromiseWrong)

end Rows
end Go.Proofs.YbulkbivkFmt
