/-
  No cell of these rows narrows 'for every input' (looked for: loops, veiled, ifaces, maps, wideKeys, modest, calm, conditions, laid).
  DERIVED. THE GIVEN ROWS OF THIS SEAT. 2 by the template 'for every input the law returns true; each argument reads behind the call as it read before'; 0 by the template 'total and deterministic' (their statements: YbulkbiuwTotals.lean).
  GIVEN WITH THE SEED: the statements are not yours to turn. If you find one false, say at which input.
  Laid BY PROGRAM, IN A SANDBOX (cutbox-rows.mjs): the forced cells as the released guide's own fill.sh prints them over the translation 6466c5ef1c270e81… (all of the seat's roots in one cut). By AI agents, Wed Nov 11 2026. No macro, syntax, notation, axiom, sorry.
-/
import Derived.Test.YbulkbiuwChecked
import GoSem.Claim
import GoSem.ClaimJoined
import GoSem.ClaimMapViews
import Derived.JoinedTies
import Derived.KernelRfl
namespace Go.Proofs.Ybulkbiuw
/- THE CELL 'sum', in the pinned program and in every row, IS THE sha256 OF THE DUMP (.gsa) THAT YbulkbiuwProg.lean LOADS. Nothing in Lean hashes anything: it is a label: what it is worth is what the hold of that sum in a sandbox is worth. -/
noncomputable def Yba.pinned : Pinned := { name := "ybulkbiuw", sum := "6466c5ef1c270e812471dedae9f171f5e7d9f2285ba6c1e43bbed5d7468e129a", checked := Yba.checked }
namespace Rows
def none {H : Type} : Left H := { results := [], args := [] }

/-- 'tickbook.LawS2986BStrip': WHATEVER THE INPUT: true; the input reads as it did. -/
def lawS2986BStripSpec : ChangeSpec := { name := "lawS2986BStrip", fn := fun _ => fun
  | [d] => { results := [.lit (.bool true)], args := [d] }
  | _ => none }
def lawS2986BStripRow : OpenClaim := { program := "ybulkbiuw", sum := "6466c5ef1c270e812471dedae9f171f5e7d9f2285ba6c1e43bbed5d7468e129a", func := "example.com/tickbook/tickbook.LawS2986BStrip", spec := "lawS2986BStrip", apart := false }
def LawS2986BStripSaid : Prop := lawS2986BStripRow.holds Yba.pinned (OpenSpec.ofChange lawS2986BStripSpec)

/-- ITS FALSE NEIGHBOUR: 'it returns false'. Refute it at one input. -/
def lawS2986BStripWrong : ChangeSpec := { name := "lawS2986BStrip", fn := fun _ => fun
  | [d] => { results := [.lit (.bool false)], args := [d] }
  | _ => none }
def LawS2986BStripWrongFalsely : Prop := lawS2986BStripRow.holds Yba.pinned (OpenSpec.ofChange lawS2986BStripWrong)

/-- 'tickbook.LawS2986BAppendedLF': WHATEVER THE INPUT: true; the input reads as it did. -/
def lawS2986BAppendedLFSpec : ChangeSpec := { name := "lawS2986BAppendedLF", fn := fun _ => fun
  | [d] => { results := [.lit (.bool true)], args := [d] }
  | _ => none }
def lawS2986BAppendedLFRow : OpenClaim := { program := "ybulkbiuw", sum := "6466c5ef1c270e812471dedae9f171f5e7d9f2285ba6c1e43bbed5d7468e129a", func := "example.com/tickbook/tickbook.LawS2986BAppendedLF", spec := "lawS2986BAppendedLF", apart := false }
def LawS2986BAppendedLFSaid : Prop := lawS2986BAppendedLFRow.holds Yba.pinned (OpenSpec.ofChange lawS2986BAppendedLFSpec)

/-- ITS FALSE NEIGHBOUR: 'it returns false'. Refute it at one input. -/
def lawS2986BAppendedLFWrong : ChangeSpec := { name := "lawS2986BAppendedLF", fn := fun _ => fun
  | [d] => { results := [.lit (.bool false)], args := [d] }
  | _ => none }
def LawS2986BAppendedLFWrongFalsely : Prop := lawS2986BAppendedLFRow.holds Yba.pinned (OpenSpec.ofChange lawS2986BAppendedLFWrong)

end Rows
end Go.Proofs.Ybulkbiuw
