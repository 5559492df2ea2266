/-
  CONTRACT: compareMessages (function 19).
-/
import Derived.Test.YbulkbivkCmp
namespace Go.Proofs.Ybulkbivk
open Go.RowKit
attribute [local go_sem ↓] Go.wp_at_zero Go.wp_at_succ

theorem five_cells (w : World) (g : Nat) (t : TypeId) (a b c d e : Int) (hg : g = w.heap.size) :
    ∀ j, j < 5 → ((w.alloc (.cells #[.int .i64 a, .int .i64 b, .int .i64 c, .int .i64 d, .int .i64 e] t)).drew).cell? ⟨g, 0 + j, none⟩ = some (.int .i64 ([a, b, c, d, e].getD j 0)) := by
  subst hg
  intro j hj
  show (w.alloc _).cell? _ = _
  rw [Nat.zero_add, World.cell?_alloc_new]
  match j, hj with
  | 0, _ => rfl
  | 1, _ => rfl
  | 2, _ => rfl
  | 3, _ => rfl
  | 4, _ => rfl

set_option maxRecDepth 100000 in
set_option maxHeartbeats 4000000 in
theorem cmpMsg_calls (m n : Msg) (w : World) :
    Calls Yba.prog 19 #[.agg m.cells.toArray, .agg n.cells.toArray] w fun e w' => e = .returned (.int .i64 (cmpMsg m n)) ∧ Below w.heap.size w w' := by
  obtain ⟨mk, ma, mb, mv, ms⟩ := m
  obtain ⟨nk, na, nb, nv, ns⟩ := n
  unfold cmpMsg
  simp only [Msg.cells]
  generalize hx1 : Lib.compareInt mk nk = x1
  generalize hx2 : Lib.compareInt mb nb = x2
  generalize hx3 : Lib.compareInt ma na = x3
  generalize hx4 : Lib.compareInt mv nv = x4
  generalize hx5 : cmpStr ms ns = x5
  have c1 : ∀ w, Calls Yba.prog 25 #[.int .i64 mk, .int .i64 nk] w fun e w' => e = .returned (.int .i64 x1) ∧ w' = w := fun w => hx1 ▸ compare25 mk nk w
  have c2 : ∀ w, Calls Yba.prog 26 #[.int .i64 mb, .int .i64 nb] w fun e w' => e = .returned (.int .i64 x2) ∧ w' = w := fun w => hx2 ▸ compare26 mb nb w
  have c3 : ∀ w, Calls Yba.prog 27 #[.int .i64 ma, .int .i64 na] w fun e w' => e = .returned (.int .i64 x3) ∧ w' = w := fun w => hx3 ▸ compare27 ma na w
  have c4 : ∀ w, Calls Yba.prog 26 #[.int .i64 mv, .int .i64 nv] w fun e w' => e = .returned (.int .i64 x4) ∧ w' = w := fun w => hx4 ▸ compare26 mv nv w
  have c5 : ∀ w, Calls Yba.prog 28 #[.string ms, .string ns] w fun e w' => e = .returned (.int .i64 x5) ∧ w' = w := fun w => hx5 ▸ compareStr ms ns w
  clear hx1 hx2 hx3 hx4 hx5
  have C1 : Hid _ := c1
  have C2 : Hid _ := c2
  have C3 : Hid _ := c3
  have C4 : Hid _ := c4
  have C5 : Hid _ := c5
  clear c1 c2 c3 c4 c5
  go_enter Yba.func19, Yba.ntmps19
  go_wp2_with fail
  go_region_held3 (fun w' => w'.cell? ⟨w.heap.size, 0, none⟩ = some (.int .i64 mk) ∧ w'.cell? ⟨w.heap.size, 1, none⟩ = some (.int .i64 ma) ∧ w'.cell? ⟨w.heap.size, 2, none⟩ = some (.int .i64 mb) ∧ w'.cell? ⟨w.heap.size, 3, none⟩ = some (.int .i64 mv) ∧ w'.cell? ⟨w.heap.size, 4, none⟩ = some (.string ms) ∧
      w'.cell? ⟨w.heap.size + 1, 0, none⟩ = some (.int .i64 nk) ∧ w'.cell? ⟨w.heap.size + 1, 1, none⟩ = some (.int .i64 na) ∧ w'.cell? ⟨w.heap.size + 1, 2, none⟩ = some (.int .i64 nb) ∧ w'.cell? ⟨w.heap.size + 1, 3, none⟩ = some (.int .i64 nv) ∧ w'.cell? ⟨w.heap.size + 1, 4, none⟩ = some (.string ns)) (go_keep)
    (first | (go_at_call 25; refine (C1.out _).mono ?_; rintro e w' ⟨rfl, rfl⟩) | (go_at_call_of 26 mb; refine (C2.out _).mono ?_; rintro e w' ⟨rfl, rfl⟩) | (go_at_call 27; refine (C3.out _).mono ?_; rintro e w' ⟨rfl, rfl⟩) | (go_at_call_of 26 mv; refine (C4.out _).mono ?_; rintro e w' ⟨rfl, rfl⟩) | (go_at_call 28; refine (C5.out _).mono ?_; rintro e w' ⟨rfl, rfl⟩) | (go_at_call 24; refine (or_any (w.heap.size + 1 + 1) 0 5 5 [x1, x2, x3, x4, x5] _ rfl (by omega) ?_).mono ?_; (exact five_cells _ _ _ _ _ _ _ _ (by simp)); rintro e w' ⟨rfl, rfl⟩))
  all_goals go_wp2
  all_goals go_ret
  all_goals exact ⟨rfl, ((((Below.refl _ _).alloc (Nat.le_refl _) _).alloc (by simp) _).alloc (by simp; omega) _).drew⟩
end Go.Proofs.Ybulkbivk
