/-
  CONTRACTS: sync.Mutex's Lock, Unlock, TryLock, the lock free (state 0) or held by this one goroutine (state 1).
-/
import Derived.Test.YbulkbjagRows
import Derived.WalkKit
import Derived.Laws.Pointers
import Derived.Laws.LoneSync
import Derived.Below
namespace Go.Proofs.Ybulkbjag
open Go.RowKit

theorem disable (w : World) : (callFunc 21 #[]).run Yba.prog w = .ok (.value (.tuple #[])) w := run_call_mark0 Yba.func21 (by kernel_rfl) (by kernel_rfl) (by kernel_rfl) .disable (by kernel_rfl) w
theorem enable (w : World) : (callFunc 22 #[]).run Yba.prog w = .ok (.value (.tuple #[])) w := run_call_mark0 Yba.func22 (by kernel_rfl) (by kernel_rfl) (by kernel_rfl) .enable (by kernel_rfl) w
theorem acquire (a : Addr) (w : World) : (callFunc 24 #[.pointer (some a)]).run Yba.prog w = .ok (.value (.tuple #[])) w := run_call_marked Yba.func24 (by kernel_rfl) (by kernel_rfl) (by kernel_rfl) .acquire (by kernel_rfl) a w
theorem releaseMerge (a : Addr) (w : World) : (callFunc 25 #[.pointer (some a)]).run Yba.prog w = .ok (.value (.tuple #[])) w := run_call_marked Yba.func25 (by kernel_rfl) (by kernel_rfl) (by kernel_rfl) .releaseMerge (by kernel_rfl) a w

set_option maxRecDepth 100000 in
set_option maxHeartbeats 800000 in
/-- Lock, the lock free. -/
theorem lock_calls (b off : Nat) (w : World) (hc : w.cell? ⟨b, off, none⟩ = some (.int .i32 0)) (hz : w.frozen? ⟨b, off, none⟩ = false) :
    Calls Yba.prog 11 #[.pointer (some ⟨b, off, none⟩)] w fun e w' => e = .returned (.tuple #[]) ∧ w' = w.setCell ⟨b, off, none⟩ (.int .i32 1) := by
  have hd := disable
  have he := enable
  have ha := acquire
  have hcas := run_call_cas_hit (P := Yba.prog) Yba.func23 (by kernel_rfl) (by kernel_rfl) (by kernel_rfl) .i32 (by kernel_rfl) (y := 1) hc hz
  have h0' : (w.setCell ⟨b, off, none⟩ (.int .i32 1)).cell? ⟨b, off, none⟩ = some (.int .i32 1) := by simp [go_sem, hc]
  have hcv := run_convert_to_unsafe (P := Yba.prog) (src := 67) (dst := 71) Yba.underlying67 Yba.underlying71 (by kernel_rfl) h0'
  go_enter Yba.func11, Yba.ntmps11
  go_wp2
  first | go_end0 | (simp only [Exit.inBlock, Exit.then]; refine bodyPost_ret (results_none rfl _ _ _) rfl ?_) | refine bodyPost_ret (results_none rfl _ _ _) rfl ?_
  go_wp2
  go_end0
  exact ⟨rfl, rfl⟩

set_option maxRecDepth 100000 in
set_option maxHeartbeats 800000 in
/-- Unlock, the lock held, nobody waiting. -/
theorem unlock_calls (b off : Nat) (w : World) (hc : w.cell? ⟨b, off, none⟩ = some (.int .i32 1)) (hz : w.frozen? ⟨b, off, none⟩ = false) :
    Calls Yba.prog 9 #[.pointer (some ⟨b, off, none⟩)] w fun e w' => e = .returned (.tuple #[]) ∧ w' = w.setCell ⟨b, off, none⟩ (.int .i32 0) := by
  have hd := disable
  have he := enable
  have hr := releaseMerge
  have hcv := run_convert_to_unsafe (P := Yba.prog) (src := 67) (dst := 71) Yba.underlying67 Yba.underlying71 (by kernel_rfl) hc
  have hadd := run_call_add (P := Yba.prog) Yba.func26 (by kernel_rfl) (by kernel_rfl) (by kernel_rfl) .i32 (by kernel_rfl) (y := -1) (s := 0) hc hz (by simp [go_sem]; rfl)
  go_enter Yba.func9, Yba.ntmps9
  go_wp2
  go_end0
  go_wp2
  go_end0
  exact ⟨rfl, rfl⟩

set_option maxRecDepth 100000 in
set_option maxHeartbeats 800000 in
/-- TryLock, the lock free: it is taken, true. -/
theorem trylock_calls (b off : Nat) (w : World) (hc : w.cell? ⟨b, off, none⟩ = some (.int .i32 0)) (hz : w.frozen? ⟨b, off, none⟩ = false) :
    Calls Yba.prog 8 #[.pointer (some ⟨b, off, none⟩)] w fun e w' => e = .returned (.bool true) ∧ w' = w.setCell ⟨b, off, none⟩ (.int .i32 1) := by
  have hd := disable
  have he := enable
  have ha := acquire
  have hcas := run_call_cas_hit (P := Yba.prog) Yba.func23 (by kernel_rfl) (by kernel_rfl) (by kernel_rfl) .i32 (by kernel_rfl) (y := 1) hc hz
  have h0' : (w.setCell ⟨b, off, none⟩ (.int .i32 1)).cell? ⟨b, off, none⟩ = some (.int .i32 1) := by simp [go_sem, hc]
  have hcv := run_convert_to_unsafe (P := Yba.prog) (src := 67) (dst := 71) Yba.underlying67 Yba.underlying71 (by kernel_rfl) h0'
  go_enter Yba.func8, Yba.ntmps8
  go_wp2
  go_ret
  exact ⟨rfl, rfl⟩
end Go.Proofs.Ybulkbjag
