/-
  CONTRACTS: zzs2987aval, zzs2987amsg; (messageSet).proposal.
-/
import Derived.Test.YbulkbivkChosen
namespace Go.Proofs.Ybulkbivk
open Go.RowKit
attribute [local go_sem ↓] Go.wp_at_zero Go.wp_at_succ
set_option linter.unusedVariables false

def valS (v : Int) : ByteArray := if v % 4 = 0 then ⟨#[97]⟩ else if v % 4 = 1 then ⟨#[98]⟩ else if v % 4 = 2 then ⟨#[99]⟩ else ⟨#[]⟩

theorem val_calls (v : Int) (w : World) (h0 : 0 ≤ v) (h1 : v ≤ 255) :
    Calls Yba.prog 17 #[.int .u8 v] w fun e w' => e = .returned (.string (valS v)) ∧ w' = w := by
  unfold valS
  obtain ⟨r, hr⟩ : ∃ r, r = v % 4 := ⟨_, rfl⟩
  have e1 := hr.symm
  have b0 : 0 ≤ r := by omega
  have b1 : r ≤ 3 := by omega
  clear hr
  by_cases c0 : r = 0
  · subst c0
    go_enter Yba.func17, Yba.ntmps17
    go_wp2
    go_ret
    exact ⟨by first | rfl | (simp only [e1]; rfl), rfl⟩
  · by_cases c1 : r = 1
    · subst c1
      go_enter Yba.func17, Yba.ntmps17
      go_wp2
      go_ret
      exact ⟨by first | rfl | (simp only [e1]; rfl), rfl⟩
    · by_cases c2 : r = 2
      · subst c2
        go_enter Yba.func17, Yba.ntmps17
        go_wp2
        go_ret
        exact ⟨by first | rfl | (simp only [e1]; rfl), rfl⟩
      · obtain rfl : r = 3 := by omega
        go_enter Yba.func17, Yba.ntmps17
        go_wp2
        go_ret
        exact ⟨by first | rfl | (simp only [e1]; rfl), rfl⟩

/-- What zzs2987amsg hands back: some message. -/
def MsgPost (w : World) (e : Ending) (w' : World) : Prop := ∃ m : Msg, e = .returned (.agg m.cells.toArray) ∧ Below w.heap.size w w'

set_option maxHeartbeats 2000000 in
set_option maxRecDepth 100000 in
theorem msg_calls (k a b vb v : Int) (w : World) (hk : 0 ≤ k ∧ k ≤ 255) (ha : 0 ≤ a ∧ a ≤ 255) (hb : -128 ≤ b ∧ b ≤ 127) (hvb : -128 ≤ vb ∧ vb ≤ 127) (hv : 0 ≤ v ∧ v ≤ 255) :
    Calls Yba.prog 7 #[.agg #[.int .u8 k, .int .u8 a, .int .i8 b, .int .i8 vb, .int .u8 v]] w (MsgPost w) := by
  obtain ⟨k0, k1⟩ := hk
  obtain ⟨a0, a1⟩ := ha
  obtain ⟨b0, b1⟩ := hb
  obtain ⟨v0, v1⟩ := hvb
  obtain ⟨x0, x1⟩ := hv
  obtain ⟨s, hs⟩ : ∃ s, Hid (∀ W, Calls Yba.prog 17 #[.int .u8 v] W fun e w' => e = .returned (.string s) ∧ w' = W) := ⟨valS v, fun W => val_calls v W x0 x1⟩
  obtain ⟨r, hr⟩ : ∃ r, r = k % 5 := ⟨_, rfl⟩
  have e1 := hr.symm
  have r0 : 0 ≤ r := by omega
  have r1 : r ≤ 4 := by omega
  clear hr
  by_cases c0 : r = 0
  · subst c0
    go_enter Yba.func7, Yba.ntmps7
    go_wp2_with fail
    exact bodyPost_ret (v := .agg (Msg.cells ⟨0, 0, b, 0, ⟨#[]⟩⟩).toArray) (by simp [results, Yba.results7, go_sem, Msg.cells]) rfl ⟨⟨0, 0, b, 0, ⟨#[]⟩⟩, rfl, (((Below.refl _ _).alloc (Nat.le_refl _) _).alloc (by simp) _).alloc (by simp; omega) _⟩
  by_cases c1 : r = 1
  · subst c1
    go_enter Yba.func7, Yba.ntmps7
    go_wp2_with fail
    refine (hs.out _).mono ?_
    rintro e w1 ⟨rfl, rfl⟩
    go_wp2_with fail
    exact bodyPost_ret (v := .agg (Msg.cells ⟨1, a % 26, b, vb, s⟩).toArray) (by simp [results, Yba.results7, go_sem, Msg.cells]) rfl ⟨⟨1, a % 26, b, vb, s⟩, rfl, (((Below.refl _ _).alloc (Nat.le_refl _) _).alloc (by simp) _).alloc (by simp; omega) _⟩
  by_cases c2 : r = 2
  · subst c2
    go_enter Yba.func7, Yba.ntmps7
    go_wp2_with fail
    refine (hs.out _).mono ?_
    rintro e w1 ⟨rfl, rfl⟩
    go_wp2_with fail
    exact bodyPost_ret (v := .agg (Msg.cells ⟨2, 0, b, 0, s⟩).toArray) (by simp [results, Yba.results7, go_sem, Msg.cells]) rfl ⟨⟨2, 0, b, 0, s⟩, rfl, (((Below.refl _ _).alloc (Nat.le_refl _) _).alloc (by simp) _).alloc (by simp; omega) _⟩
  by_cases c3 : r = 3
  · subst c3
    go_enter Yba.func7, Yba.ntmps7
    go_wp2_with fail
    refine (hs.out _).mono ?_
    rintro e w1 ⟨rfl, rfl⟩
    go_wp2_with fail
    exact bodyPost_ret (v := .agg (Msg.cells ⟨3, 0, b, 0, s⟩).toArray) (by simp [results, Yba.results7, go_sem, Msg.cells]) rfl ⟨⟨3, 0, b, 0, s⟩, rfl, (((Below.refl _ _).alloc (Nat.le_refl _) _).alloc (by simp) _).alloc (by simp; omega) _⟩
  · obtain rfl : r = 4 := by omega
    go_enter Yba.func7, Yba.ntmps7
    go_wp2_with fail
    refine (hs.out _).mono ?_
    rintro e w1 ⟨rfl, rfl⟩
    go_wp2_with fail
    exact bodyPost_ret (v := .agg (Msg.cells ⟨4, a % 26, b, 0, s⟩).toArray) (by simp [results, Yba.results7, go_sem, Msg.cells]) rfl ⟨⟨4, a % 26, b, 0, s⟩, rfl, (((Below.refl _ _).alloc (Nat.le_refl _) _).alloc (by simp) _).alloc (by simp; omega) _⟩
end Go.Proofs.Ybulkbivk
