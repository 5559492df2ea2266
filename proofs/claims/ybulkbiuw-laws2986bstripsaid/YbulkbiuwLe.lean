/-
  'withoutLineEnd' (function 6) BY CONTRACTS: what it hands back, three ways. The world stays as it was.
-/
import Derived.Test.YbulkbiuwRows
import Derived.WalkKit
import Derived.Below
import Derived.ProofKit
import Derived.ChangeOld
namespace Go.Proofs.Ybulkbiuw
open Go.RowKit Go.ChangeShapes Go.WideShapes

/-- An empty slice comes back as it is. -/
theorem le_empty (a : Option Addr) (c : Nat) (w : World) :
    Calls Yba.prog 6 #[.slice a 0 c] w fun e w' => e = .returned (.slice a 0 c) ∧ w' = w := by
  go_enter Yba.func6, Yba.ntmps6
  go_wp2
  go_ret
  exact ⟨rfl, rfl⟩

/-- The last byte is no LF: as it is. -/
theorem le_keep (b off n c : Nat) (z : Int) (w : World) (hn : 0 < n) (hm : n ≤ 4097) (hz : (z == 10) = false)
    (hc : w.cell? ⟨b, off + (n - 1), none⟩ = some (.int .u8 z)) :
    Calls Yba.prog 6 #[.slice (some ⟨b, off, none⟩) n c] w fun e w' => e = .returned (.slice (some ⟨b, off, none⟩) n c) ∧ w' = w := by
  obtain ⟨k, rfl⟩ : ∃ k, n = k + 1 := ⟨n - 1, by omega⟩
  simp only [Nat.add_sub_cancel] at hc
  go_enter Yba.func6, Yba.ntmps6
  go_wp2
  go_ret
  exact ⟨rfl, rfl⟩

/-- The last byte is an LF: it is cut off. -/
theorem le_cut (b off n c : Nat) (w : World) (hn : 0 < n) (hm : n ≤ 4097) (hnc : n ≤ c)
    (hc : w.cell? ⟨b, off + (n - 1), none⟩ = some (.int .u8 10)) :
    Calls Yba.prog 6 #[.slice (some ⟨b, off, none⟩) n c] w fun e w' => e = .returned (.slice (some ⟨b, off, none⟩) (n - 1) c) ∧ w' = w := by
  obtain ⟨k, rfl⟩ : ∃ k, n = k + 1 := ⟨n - 1, by omega⟩
  simp only [Nat.add_sub_cancel] at hc ⊢
  go_enter Yba.func6, Yba.ntmps6
  go_wp2
  go_ret
  exact ⟨rfl, rfl⟩
theorem info5 : (Yba.prog.info? 5).map (fun i => (i.zero, i.size, i.bytes)) = some (some (.int .u8 0), 1, 1) := by kernel_rfl
theorem size5 : (Yba.prog.info? 5).map (·.size) = some 1 := by kernel_rfl

theorem row_src {k : IntKind} {w : World} {a : Option Addr} {len cap : Nat} {zs : List Int}
    (h : (a = none ∧ len = 0 ∧ cap = 0 ∧ zs = []) ∨ ∃ x, a = some x ∧ len ≤ cap ∧ cap ≤ maxLen ∧ zs.length = cap ∧ (∀ i, i < zs.length → w.cell? (x.add i) = some (.int k (zs.getD i 0))) ∧ ∀ n ∈ zs, (Lit.int k n).wf = true) :
    len ≤ zs.length ∧ ∀ j, j < len → ∃ b off, a = some ⟨b, off, none⟩ ∧ b < w.heap.size ∧ ∀ i, i < len → w.cell? ⟨b, off + i, none⟩ = some (.int k (zs.getD i 0)) := by
  rcases h with ⟨rfl, rfl, rfl, rfl⟩ | ⟨x, rfl, hl, _, hz, hc, _⟩
  · exact ⟨Nat.le_refl _, fun j hj => absurd hj (Nat.not_lt_zero _)⟩
  · refine ⟨by omega, fun j hj => ?_⟩
    obtain ⟨b, off, spot⟩ := x
    have h0 := hc 0 (by omega)
    have hs : spot = none := by simpa [Addr.add] using World.cell?_spot h0
    subst hs
    refine ⟨b, off, rfl, ?_, fun i hi => ?_⟩
    · have := World.block_lt_of_cell? w _ h0; rw [add_plain] at this; exact this
    · have := hc i (by omega); rw [add_plain] at this; exact this


/-- What a made row holds, whole. -/
theorem made_block {w : World} {base g n : Nat} {t : TypeId} {xs : List Value} (h : w.ownsRow base t 1 (.slice (some ⟨g, 0, none⟩) n n) n xs) :
    ∃ cur : List Value, cur.length = n ∧ w.heap[g]? = some (.cells cur.toArray t (0, 0)) := by
  obtain ⟨h1, h2⟩ := h
  rcases h2 with ⟨h2, _⟩ | ⟨g', cap, cur, hv, hg, hh, r1, r2, r3, r4⟩
  · simp at h2
  · simp at hv
    obtain ⟨rfl, rfl⟩ := hv
    exact ⟨cur.toList, by simpa using r3, by simpa using hh⟩

theorem row_cell {w : World} {g : Nat} {cs : List Value} {t : TypeId} (h : w.heap[g]? = some (.cells cs.toArray t (0, 0))) (j : Nat) :
    w.cell? ⟨g, j, none⟩ = cs[j]? ∧ w.frozen? ⟨g, j, none⟩ = false := by
  constructor
  · simp [World.cell?, h]
  · simp [World.frozen?, h]

end Go.Proofs.Ybulkbiuw
