/-
  PLAIN DATA, no Go in sight: a message; the order on messages.
-/
import Derived.Lib.Bytealg
import Derived.Lib.Small
namespace Go.Proofs.Ybulkbivk

structure Msg where
  kind : Int
  acc : Int
  bal : Int
  vb : Int
  val : ByteArray

/-- The five cells of a message. -/
def Msg.cells (m : Msg) : List Value := [.int .i64 m.kind, .int .i64 m.acc, .int .i64 m.bal, .int .i64 m.vb, .string m.val]

theorem Msg.cells_length (m : Msg) : m.cells.length = 5 := rfl
theorem Msg.cells_one (m : Msg) : ∀ v ∈ m.cells, v.oneCell' = true := by
  intro v hv
  simp only [Msg.cells, List.mem_cons, List.not_mem_nil, or_false] at hv
  rcases hv with rfl | rfl | rfl | rfl | rfl <;> rfl

/-- cmp.Or: the first number that is not zero. -/
def orList : List Int → Int
  | [] => 0
  | x :: xs => if x = 0 then orList xs else x

def cmpStr (a b : ByteArray) : Int := Lib.compareBytes a.data.toList b.data.toList

def cmpMsg (m n : Msg) : Int :=
  orList [Lib.compareInt m.kind n.kind, Lib.compareInt m.bal n.bal, Lib.compareInt m.acc n.acc, Lib.compareInt m.vb n.vb, cmpStr m.val n.val]

def atKB (k b : Int) (m : Msg) : Int := orList [Lib.compareInt m.kind k, Lib.compareInt m.bal b]
end Go.Proofs.Ybulkbivk
