/-
  CONTRACTS: (*LogAcceptorState).InSlot (7), (*AcceptorState).Promise (8).
-/
import Derived.Test.YbulkbivkFmtErr
import Derived.Test.YbulkbivkFmtSV
import Derived.Maps.OwnOps
import Derived.Deep.RegionHeld3
import Derived.Deep.DrawnRows
import Derived.Deep.QuietTactic
import Derived.BigQuiet
namespace Go.Proofs.YbulkbivkFmt
open Go.RowKit Go.Extern.Stop Go.Stop Go.Extern Go.Maps
attribute [local go_sem ↓] Go.wp_at_zero Go.wp_at_succ
set_option linter.unusedVariables false

theorem law3 : Keyed Ybaf.prog 3 := int_keyed Ybaf.underlying3
theorem zero27 (w : World) : (zeroValue 27).run Ybaf.prog w = .ok (.agg SV.zero.cells.toArray) w := by kernel_rfl

/-- The cells of a LogAcceptorState. -/
def accC (mb : Int) (m : Nat) (f : Int) : Array Value := #[.int .i64 mb, .map (some m), .int .i64 f]
theorem acc_cells {W : World} {ab m : Nat} {mb f : Int} (h : W.heap[ab]? = some (.cells (accC mb m f) 34 (0, 0))) :
    W.cell? ⟨ab, 0, none⟩ = some (.int .i64 mb) ∧ W.cell? ⟨ab, 1, none⟩ = some (.map (some m)) ∧ W.cell? ⟨ab, 2, none⟩ = some (.int .i64 f) ∧ W.frozen? ⟨ab, 0, none⟩ = false := by
  refine ⟨?_, ?_, ?_, ?_⟩ <;> simp [World.cell?, World.frozen?, h, accC]

def InPost (mb : Int) (w : World) (e : Ending) (w' : World) : Prop := ∃ vb vv, e = .returned (.agg #[.int .i64 mb, .int .i64 vb, .string vv]) ∧ Below w.heap.size w w'

set_option maxHeartbeats 2000000 in
set_option maxRecDepth 100000 in
theorem inSlot_calls (ab m n : Nat) (mb f q : Int) (D : DataW Unit) (w : World) (hq0 : -1000 ≤ q) (hq1 : q ≤ 1000) (ha : w.heap[ab]? = some (.cells (accC mb m f) 34 (0, 0))) (hm : w.ownsMap Ybaf.prog 3 svElem m n D) :
    Calls Ybaf.prog 7 #[.pointer (some ⟨ab, 0, none⟩), .int .i64 q] w (InPost mb w) := by
  obtain ⟨x0, x1, x2, _⟩ := acc_cells ha
  have hkey : keyOf Ybaf.prog 3 (.int .i64 q) = some (.int .i64 q) := keyOf_int_mk Ybaf.underlying3 (WalkArith.wf_i64 (by omega))
  have n0 := World.new_ne w _ x0
  have n1 := World.new_ne w _ x1
  have hlt : ab < w.heap.size := World.block_lt_of_cell? w _ x0
  have hlt1 : ab < w.heap.size + 1 := by omega
  clear ha x2
  go_enter Ybaf.func7, Ybaf.ntmps7
  go_wp2_with (at_lookup; refine wpList_lookup_own_ok _ rfl _ _ 29 rfl 3 27 law3 Ybaf.underlying29 svElem (zero27 _) (svD SV.zero) [] (svElem_mk _) m n D rfl ((hm.alloc _).alloc _) _ _ rfl hkey ?_)
  intro v ps hv
  obtain ⟨s, rfl, _⟩ := svElem_inv hv
  simp only [SV.cells]
  cases hh : Maps.has D (.int .i64 q)
  · go_wp2
    exact bodyPost_ret (v := .agg #[.int .i64 mb, .int .i64 (-1), .string ⟨#[]⟩]) (by simp [results, Ybaf.results7, go_sem]) rfl ⟨_, _, rfl, (((Below.refl _ w).alloc (Nat.le_refl _) _).alloc (by simp) _).alloc (by simp; omega) _⟩
  · go_wp2
    obtain ⟨a, b, s⟩ := s
    simp only
    go_region
    all_goals go_wp2
    exact bodyPost_ret (v := .agg #[.int .i64 mb, .int .i64 b, .string s]) (by simp [results, Ybaf.results7, go_sem]) rfl ⟨_, _, rfl, ((((Below.refl _ w).alloc (Nat.le_refl _) _).alloc (by simp) _).alloc (by simp; omega) _).drew⟩

def ApPost (b : Int) (pb : Nat) (w : World) (e : Ending) (w' : World) : Prop := e = .returned .nilIface ∧ w' = w.setCell ⟨pb, 0, none⟩ (.int .i64 b)

set_option maxHeartbeats 800000 in
theorem accPromise_ok (pb : Nat) (mb b : Int) (w : World) (h0 : 0 ≤ b) (h1 : mb < b) (hc : w.cell? ⟨pb, 0, none⟩ = some (.int .i64 mb)) (hf : w.frozen? ⟨pb, 0, none⟩ = false) :
    Calls Ybaf.prog 8 #[.pointer (some ⟨pb, 0, none⟩), .int .i64 b] w (ApPost b pb w) := by
  have hn : ¬ b ≤ mb := by omega
  go_enter Ybaf.func8, Ybaf.ntmps8
  go_wp2_with fail
  refine (checkBal_ok b w h0).mono ?_
  rintro e w1 ⟨rfl, hw1⟩
  have hw1' := hw1.symm
  clear hw1
  subst hw1'
  go_wp2
  go_ret
  exact ⟨rfl, rfl⟩

set_option maxHeartbeats 800000 in
theorem accPromise_bad (F : Interp) (pb : Nat) (mb b : Int) (w : World) (hF : F.answers w.tape) (h1 : b ≤ mb) (hc : w.cell? ⟨pb, 0, none⟩ = some (.int .i64 mb)) :
    Calls Ybaf.prog 8 #[.pointer (some ⟨pb, 0, none⟩), .int .i64 b] w (ErrPost w) := by
  by_cases h0 : b < 0
  · have CB : Hid (Calls Ybaf.prog 11 #[.int .i64 b] w (ErrPost w)) := checkBal_bad F b w hF h0
    clear hF
    go_enter Ybaf.func8, Ybaf.ntmps8
    go_wp2_with fail
    refine Calls.mono CB.out ?_
    rintro e w1 ⟨t, p, rfl, hb⟩
    have HB : Hid (Below w.heap.size w w1) := hb
    clear hb CB
    go_wp2
    go_ret
    exact ⟨t, p, rfl, HB.out⟩
  · have CB : Hid (Calls Ybaf.prog 11 #[.int .i64 b] w fun e w' => e = .returned .nilIface ∧ w' = w) := checkBal_ok b w (by omega)
    have CR : Hid (∀ (s : ByteArray) (g : Nat) (x y : Int) (W : World), W.cell? ⟨g, 0, none⟩ = some (.iface 3 (.int .i64 x)) → W.cell? ⟨g, 1, none⟩ = some (.iface 3 (.int .i64 y)) → Calls Ybaf.prog 6 #[.string s, .slice (some ⟨g, 0, none⟩) 2 2] W (ErrPost W)) := fun s g x y W hx hy => refuse_calls s g x y W hx hy
    clear hF
    go_enter Ybaf.func8, Ybaf.ntmps8
    go_wp2_with fail
    refine Calls.mono CB.out ?_
    rintro e w1 ⟨rfl, hw1⟩
    have hw1' := hw1.symm
    clear hw1
    subst hw1'
    go_wp2_with fail
    refine Calls.mono (CR.out _ _ mb b _ (by rw [World.cell?_alloc_new]; rfl) (by rw [World.cell?_alloc_new]; rfl)) ?_
    rintro e w1 ⟨t, p, rfl, hb⟩
    have HB : Hid (Below w.heap.size w w1) := ((Below.refl _ w).alloc (Nat.le_refl _) _).trans (hb.mono (by simp))
    clear hb CB CR
    go_wp2
    go_ret
    exact ⟨t, p, rfl, HB.out⟩
end Go.Proofs.YbulkbivkFmt
