/-
  CONTRACTS: fmt.Errorf (10), checkSlot (5), checkBallot (11), refuse (6): an error that is not nil.
-/
import Derived.Test.YbulkbivkFmtRows
import Derived.WalkKit
import Derived.WalkSpells
import Derived.WalkSmall
import Derived.StillTactics
import Derived.Laws.Pointers
import Derived.Below
import Derived.Stop.CallBack
import Derived.Stop.IfaceNil
namespace Go.Proofs.YbulkbivkFmt
open Go.RowKit Go.Extern.Stop Go.Stop Go.Extern
set_option linter.unusedVariables false

theorem call15 (args : Array Value) (w : World) : (callFunc 15 args).run Ybaf.prog w = ((FmtStop.errorf #[9, 48] #[37] args).run Ybaf.prog w).andThen fun v w' => .ok (.value v) w' :=
  run_callFunc_extern Ybaf.func15 (by kernel_rfl) (by kernel_rfl) (by kernel_rfl) (by kernel_rfl) args w
theorem guardF (name : String) (w : World) : (FmtStop.guard name).run Ybaf.prog w = .ok () w := by kernel_rfl
def fSlot : ByteArray := ⟨#[115, 108, 111, 116, 32, 109, 117, 115, 116, 32, 110, 111, 116, 32, 98, 101, 32, 110, 101, 103, 97, 116, 105, 118, 101, 44, 32, 110, 111, 116, 32, 37, 100]⟩
theorem fmt0 : FmtStop.printed? fSlot 1 = some [(0, 100, false)] := by kernel_rfl
theorem fmt0r (w : World) : (FmtDoors.printed fSlot 1).run Ybaf.prog w = .ok [(0, 100, false)] w := by kernel_rfl
def shape3 : List UInt8 := [5, 3, 0, 0, 0, 0, 0, 0, 0, 105, 110, 116]
theorem op3 (name : String) (x : Int) (w : World) : (FmtStop.operand name true 100 false (.iface 3 (.int .i64 x))).run Ybaf.prog w = .ok (shape3, Go.Extern.Stop.digits 8 (x % 2 ^ 64).toNat) w := by kernel_rfl
theorem ptr63 (w : World) : (FmtStop.ptrTo "errors.errorString").run Ybaf.prog w = .ok 63 w := by kernel_rfl
theorem elem63 (w : World) : (elemOf 63).run Ybaf.prog w = .ok 65 w := by kernel_rfl
def fBal : ByteArray := ⟨#[98, 97, 108, 108, 111, 116, 32, 109, 117, 115, 116, 32, 110, 111, 116, 32, 98, 101, 32, 110, 101, 103, 97, 116, 105, 118, 101, 44, 32, 110, 111, 116, 32, 37, 100]⟩
theorem fmt1 : FmtStop.printed? fBal 1 = some [(0, 100, false)] := by kernel_rfl
theorem fmt1r (w : World) : (FmtDoors.printed fBal 1).run Ybaf.prog w = .ok [(0, 100, false)] w := by kernel_rfl

/-- An error that is not nil; nothing of before has turned. -/
def ErrPost (w : World) (e : Ending) (w' : World) : Prop := ∃ t p, e = .returned (.iface t (.pointer p)) ∧ Below w.heap.size w w'

set_option maxHeartbeats 800000 in
set_option maxRecDepth 100000 in
theorem errorf_calls (F : Interp) (s : ByteArray) (n : Int) (blk : Nat) (w : World) (hF : F.answers w.tape) (h0 : FmtStop.printed? s 1 = some [(0, 100, false)]) (hr : ∀ w, (FmtDoors.printed s 1).run Ybaf.prog w = .ok [(0, 100, false)] w) (hc : w.cell? ⟨blk, 0, none⟩ = some (.iface 3 (.int .i64 n))) :
    Calls Ybaf.prog 10 #[.string s, .slice (some ⟨blk, 0, none⟩) 1 1] w (ErrPost w) := by
  have hF' := answers_open hF
  have c15 := call15
  have hg := guardF
  have ho := op3
  have hp := ptr63
  have he := elem63
  go_enter Ybaf.func10, Ybaf.ntmps10
  go_wp2
  go_ret
  exact ⟨63, _, rfl, ((Below.refl _ w).alloc (Nat.le_refl _) _).drew⟩

theorem cell_one (w : World) (v : Value) (t : TypeId) : (w.alloc (.cells #[v] t)).cell? ⟨w.heap.size, 0, none⟩ = some v := by rw [World.cell?_alloc_new]; rfl

set_option maxHeartbeats 800000 in
theorem checkSlot_bad (F : Interp) (n : Int) (w : World) (hF : F.answers w.tape) (hn : n < 0) : Calls Ybaf.prog 5 #[.int .i64 n] w (ErrPost w) := by
  have CE : Hid (∀ (blk : Nat) (W : World), W.tape = w.tape → W.cell? ⟨blk, 0, none⟩ = some (.iface 3 (.int .i64 n)) → Calls Ybaf.prog 10 #[.string fSlot, .slice (some ⟨blk, 0, none⟩) 1 1] W (ErrPost W)) := fun blk W ht hc => errorf_calls F fSlot n blk W (by rw [ht]; exact hF) fmt0 fmt0r hc
  clear hF
  go_enter Ybaf.func5, Ybaf.ntmps5
  go_wp2_with fail
  refine Calls.mono (CE.out _ _ rfl (cell_one _ _ _)) ?_
  rintro e w1 ⟨t, p, rfl, hb⟩
  have HB : Hid (Below w.heap.size w w1) := ((Below.refl _ w).alloc (Nat.le_refl _) _).trans (hb.mono (by simp))
  clear hb CE
  go_wp2
  go_ret
  exact ⟨t, p, rfl, HB.out⟩

theorem checkSlot_ok (n : Int) (w : World) (hn : 0 ≤ n) : Calls Ybaf.prog 5 #[.int .i64 n] w fun e w' => e = .returned .nilIface ∧ w' = w := by
  have h : ¬ n < 0 := by omega
  go_enter Ybaf.func5, Ybaf.ntmps5
  go_wp2
  go_ret
  exact ⟨rfl, rfl⟩

set_option maxHeartbeats 800000 in
theorem checkBal_bad (F : Interp) (n : Int) (w : World) (hF : F.answers w.tape) (hn : n < 0) : Calls Ybaf.prog 11 #[.int .i64 n] w (ErrPost w) := by
  have CE : Hid (∀ (blk : Nat) (W : World), W.tape = w.tape → W.cell? ⟨blk, 0, none⟩ = some (.iface 3 (.int .i64 n)) → Calls Ybaf.prog 10 #[.string fBal, .slice (some ⟨blk, 0, none⟩) 1 1] W (ErrPost W)) := fun blk W ht hc => errorf_calls F fBal n blk W (by rw [ht]; exact hF) fmt1 fmt1r hc
  clear hF
  go_enter Ybaf.func11, Ybaf.ntmps11
  go_wp2_with fail
  refine Calls.mono (CE.out _ _ rfl (cell_one _ _ _)) ?_
  rintro e w1 ⟨t, p, rfl, hb⟩
  have HB : Hid (Below w.heap.size w w1) := ((Below.refl _ w).alloc (Nat.le_refl _) _).trans (hb.mono (by simp))
  clear hb CE
  go_wp2
  go_ret
  exact ⟨t, p, rfl, HB.out⟩

theorem checkBal_ok (n : Int) (w : World) (hn : 0 ≤ n) : Calls Ybaf.prog 11 #[.int .i64 n] w fun e w' => e = .returned .nilIface ∧ w' = w := by
  have h : ¬ n < 0 := by omega
  go_enter Ybaf.func11, Ybaf.ntmps11
  go_wp2
  go_ret
  exact ⟨rfl, rfl⟩

theorem cell_later {w W : World} (h : Below w.heap.size w W) {a : Addr} {v : Value} (hc : w.cell? a = some v) : W.cell? a = some v := (h.cell (World.block_lt_of_cell? w _ hc)).trans hc

set_option maxHeartbeats 2000000 in
set_option maxRecDepth 100000 in
theorem refuse_calls (s : ByteArray) (g : Nat) (x y : Int) (w : World) (hx : w.cell? ⟨g, 0, none⟩ = some (.iface 3 (.int .i64 x))) (hy : w.cell? ⟨g, 1, none⟩ = some (.iface 3 (.int .i64 y))) :
    Calls Ybaf.prog 6 #[.string s, .slice (some ⟨g, 0, none⟩) 2 2] w (ErrPost w) := by
  have hx' := cell_later ((Below.refl _ w).alloc (Nat.le_refl _) (.cells #[.string s, .slice none 0 0, .nilIface, .nilIface, .nilIface, .nilIface] 52)) hx
  have hy' := cell_later ((Below.refl _ w).alloc (Nat.le_refl _) (.cells #[.string s, .slice none 0 0, .nilIface, .nilIface, .nilIface, .nilIface] 52)) hy
  go_enter Ybaf.func6, Ybaf.ntmps6
  go_wp2
  go_ret
  exact ⟨49, _, rfl, (Below.refl _ w).alloc (Nat.le_refl _) _⟩
end Go.Proofs.YbulkbivkFmt
