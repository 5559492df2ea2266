/-
  No cell of these rows narrows 'for every input' (looked for: loops, veiled, ifaces, maps, wideKeys, modest, calm, conditions, laid).
  DERIVED. THE GIVEN ROWS OF THIS SEAT. 4 by the template 'for every input the law returns true; each argument reads behind the call as it read before'; 0 by the template 'total and deterministic' (their statements: YbulkbivkTotals.lean).
  GIVEN WITH THE SEED: the statements are not yours to turn. If you find one false, say at which input.
  Laid BY PROGRAM, IN A SANDBOX (cutbox-rows.mjs): the forced cells as the released guide's own fill.sh prints them over the translation 0a3cded1329d9e6f… (all of the seat's roots in one cut). By AI agents, Wed Nov 11 2026. No macro, syntax, notation, axiom, sorry.
-/
import Derived.Test.YbulkbivkChecked
import GoSem.Claim
import GoSem.ClaimJoined
import GoSem.ClaimMapViews
import Derived.JoinedTies
import Derived.KernelRfl
namespace Go.Proofs.Ybulkbivk
/- THE CELL 'sum', in the pinned program and in every row, IS THE sha256 OF THE DUMP (.gsa) THAT YbulkbivkProg.lean LOADS. Nothing in Lean hashes anything: it is a label: what it is worth is what the hold of that sum in a sandbox is worth. -/
noncomputable def Yba.pinned : Pinned := { name := "ybulkbivk", sum := "0a3cded1329d9e6f8819c26e3fcd2197914ce0b173be6bd4203528c766997302", checked := Yba.checked }
namespace Rows
def none {H : Type} : Left H := { results := [], args := [] }

/-- 'ballotproof.LawS2987AExact': WHATEVER THE INPUT: true; the input reads as it did. -/
def lawS2987AExactSpec : ChangeSpec := { name := "lawS2987AExact", fn := fun _ => fun
  | [d1, d2] => { results := [.lit (.bool true)], args := [d1, d2] }
  | _ => none }
def lawS2987AExactRow : OpenClaim := { program := "ybulkbivk", sum := "0a3cded1329d9e6f8819c26e3fcd2197914ce0b173be6bd4203528c766997302", func := "example.com/ballotproof/ballotproof.LawS2987AExact", spec := "lawS2987AExact", inPlace := ["internal/bytealg.abigen_runtime_cmpstring", "slices.overlaps[example.com/ballotproof/ballotproof.Message]"], unfollowed := true, recurses := true, apart := false }
def LawS2987AExactSaid : Prop := lawS2987AExactRow.holds Yba.pinned (OpenSpec.ofChange lawS2987AExactSpec)

/-- ITS FALSE NEIGHBOUR: 'it returns false'. Refute it at one input. -/
def lawS2987AExactWrong : ChangeSpec := { name := "lawS2987AExact", fn := fun _ => fun
  | [d1, d2] => { results := [.lit (.bool false)], args := [d1, d2] }
  | _ => none }
def LawS2987AExactWrongFalsely : Prop := lawS2987AExactRow.holds Yba.pinned (OpenSpec.ofChange lawS2987AExactWrong)

/-- 'ballotproof.LawS2987AAny': WHATEVER THE INPUT: true; the input reads as it did. -/
def lawS2987AAnySpec : ChangeSpec := { name := "lawS2987AAny", fn := fun _ => fun
  | [d1, d2] => { results := [.lit (.bool true)], args := [d1, d2] }
  | _ => none }
def lawS2987AAnyRow : OpenClaim := { program := "ybulkbivk", sum := "0a3cded1329d9e6f8819c26e3fcd2197914ce0b173be6bd4203528c766997302", func := "example.com/ballotproof/ballotproof.LawS2987AAny", spec := "lawS2987AAny", inPlace := ["internal/bytealg.abigen_runtime_cmpstring", "slices.overlaps[example.com/ballotproof/ballotproof.Message]"], unfollowed := true, recurses := true, apart := false }
def LawS2987AAnySaid : Prop := lawS2987AAnyRow.holds Yba.pinned (OpenSpec.ofChange lawS2987AAnySpec)

/-- ITS FALSE NEIGHBOUR: 'it returns false'. Refute it at one input. -/
def lawS2987AAnyWrong : ChangeSpec := { name := "lawS2987AAny", fn := fun _ => fun
  | [d1, d2] => { results := [.lit (.bool false)], args := [d1, d2] }
  | _ => none }
def LawS2987AAnyWrongFalsely : Prop := lawS2987AAnyRow.holds Yba.pinned (OpenSpec.ofChange lawS2987AAnyWrong)

/-- 'ballotproof.LawS2987BCount': WHATEVER THE INPUT: true; the input reads as it did. -/
def lawS2987BCountSpec : ChangeSpec := { name := "lawS2987BCount", fn := fun _ => fun
  | [d1, d2, d3] => { results := [.lit (.bool true)], args := [d1, d2, d3] }
  | _ => none }
def lawS2987BCountRow : OpenClaim := { program := "ybulkbivk", sum := "0a3cded1329d9e6f8819c26e3fcd2197914ce0b173be6bd4203528c766997302", func := "example.com/ballotproof/ballotproof.LawS2987BCount", spec := "lawS2987BCount", inPlace := ["internal/bytealg.abigen_runtime_cmpstring", "slices.overlaps[example.com/ballotproof/ballotproof.Message]"], unfollowed := true, recurses := true, apart := false }
def LawS2987BCountSaid : Prop := lawS2987BCountRow.holds Yba.pinned (OpenSpec.ofChange lawS2987BCountSpec)

/-- ITS FALSE NEIGHBOUR: 'it returns false'. Refute it at one input. -/
def lawS2987BCountWrong : ChangeSpec := { name := "lawS2987BCount", fn := fun _ => fun
  | [d1, d2, d3] => { results := [.lit (.bool false)], args := [d1, d2, d3] }
  | _ => none }
def LawS2987BCountWrongFalsely : Prop := lawS2987BCountRow.holds Yba.pinned (OpenSpec.ofChange lawS2987BCountWrong)

/-- 'ballotproof.LawS2987BFresh': WHATEVER THE INPUT: true; the input reads as it did. -/
def lawS2987BFreshSpec : ChangeSpec := { name := "lawS2987BFresh", fn := fun _ => fun
  | [d1, d2] => { results := [.lit (.bool true)], args := [d1, d2] }
  | _ => none }
def lawS2987BFreshRow : OpenClaim := { program := "ybulkbivk", sum := "0a3cded1329d9e6f8819c26e3fcd2197914ce0b173be6bd4203528c766997302", func := "example.com/ballotproof/ballotproof.LawS2987BFresh", spec := "lawS2987BFresh", inPlace := ["internal/bytealg.abigen_runtime_cmpstring", "slices.overlaps[example.com/ballotproof/ballotproof.Message]"], unfollowed := true, recurses := true, apart := false }
def LawS2987BFreshSaid : Prop := lawS2987BFreshRow.holds Yba.pinned (OpenSpec.ofChange lawS2987BFreshSpec)

/-- ITS FALSE NEIGHBOUR: 'it returns false'. Refute it at one input. -/
def lawS2987BFreshWrong : ChangeSpec := { name := "lawS2987BFresh", fn := fun _ => fun
  | [d1, d2] => { results := [.lit (.bool false)], args := [d1, d2] }
  | _ => none }
def LawS2987BFreshWrongFalsely : Prop := lawS2987BFreshRow.holds Yba.pinned (OpenSpec.ofChange lawS2987BFreshWrong)

end Rows
end Go.Proofs.Ybulkbivk
