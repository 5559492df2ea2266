/-
  THE TOLD CARD OF LawS2987CPromise.
-/
import Derived.Test.YbulkbivkFmtCards
import Derived.Test.YbulkbivkFmtTold
import Derived.SevenToldRow
namespace Go.Proofs.YbulkbivkFmt
open Go.Extern.Stop Go.Stop Go.Extern

theorem Ybaf.laidOutP : laidOutB Ybaf.pinned.checked.prog = true := by kernel_rfl
theorem Ybaf.stopsP : Ybaf.pinned.checked.prog.stops = ["fmt.errorf"] := by kernel_rfl
theorem Ybaf.stopKnobsP : Ybaf.pinned.checked.prog.stopKnobs = [] := by kernel_rfl
theorem Ybaf.quietP (os : Os) : Stop.quiet Ybaf.pinned.checked.prog os := by
  intro k hk
  rw [Ybaf.stopKnobsP] at hk
  cases hk

theorem card_of (hlaw : LawWalk) : Rows.LawS2987CPromiseToldSaid :=
  Claim7.holds_of_told_any 3 Ybaf.f3 "fmt.errorf" [] [] _ _ _ (by kernel_rfl) rfl rfl rfl Ybaf.laidOutP (by kernel_rfl) rfl ⟨rfl, rfl, rfl, rfl, rfl, rfl, rfl⟩ rfl rfl (by kernel_rfl) (by kernel_rfl) Ybaf.func3 (by kernel_rfl)
    (of_decide_eq_true (by kernel_rfl)) (of_decide_eq_true (by kernel_rfl)) Ybaf.stopsP.symm rfl Ybaf.stopKnobsP.symm (by kernel_rfl)
    (by kernel_rfl) (by kernel_rfl) (by kernel_rfl) (by kernel_rfl) (by kernel_rfl) (by kernel_rfl) (by kernel_rfl) (by kernel_rfl) (by kernel_rfl) rfl (by kernel_rfl) rfl rfl
    rfl rfl
    rfl (by kernel_rfl) (by kernel_rfl) (by kernel_rfl) (by decide) (by kernel_rfl)
    (OpenClaim.moreEntering_of (by kernel_rfl) (by kernel_rfl) (by kernel_rfl) (by kernel_rfl) (by kernel_rfl) (by kernel_rfl) (by kernel_rfl) (by kernel_rfl) (by kernel_rfl) (by kernel_rfl))
    ⟨_, WideRow.started_initial, Ybaf.quietP _⟩
    (fun os started _ H enc _ => law_lifted hlaw os started H enc)
end Go.Proofs.YbulkbivkFmt
