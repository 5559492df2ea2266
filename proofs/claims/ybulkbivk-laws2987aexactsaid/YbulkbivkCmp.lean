/-
  CONTRACTS: cmp.Compare at three types, strings.Compare, cmp.Or, compareMessages.
-/
import Derived.Test.YbulkbivkRows
import Derived.Test.YbulkbivkMsg
import Derived.WalkKit
import Derived.WalkSpells
import Derived.WalkSmall
import Derived.StillTactics
import Derived.Laws.Pointers
import Derived.Deep.RegionHeld3
import Derived.Deep.DrawnRows
import Derived.Below
import Derived.Outline
namespace Go.Proofs.Ybulkbivk
open Go.RowKit

theorem compare25 (x y : Int) (w : World) : Calls Yba.prog 25 #[.int .i64 x, .int .i64 y] w fun e w' => e = .returned (.int .i64 (Lib.compareInt x y)) ∧ w' = w := by
  have e1 : Lib.compareInt x y = if x < y then -1 else if y < x then 1 else 0 := rfl
  rw [e1]
  by_cases h : x < y
  · have h2 : ¬ y < x := by omega
    rw [if_pos h]
    go_enter Yba.func25, Yba.ntmps25
    go_wp2
    go_ret
    exact ⟨rfl, rfl⟩
  · rw [if_neg h]
    by_cases h2 : y < x
    · rw [if_pos h2]
      go_enter Yba.func25, Yba.ntmps25
      go_wp2
      go_ret
      exact ⟨rfl, rfl⟩
    · rw [if_neg h2]
      go_enter Yba.func25, Yba.ntmps25
      go_wp2
      go_ret
      exact ⟨rfl, rfl⟩

theorem compare26 (x y : Int) (w : World) : Calls Yba.prog 26 #[.int .i64 x, .int .i64 y] w fun e w' => e = .returned (.int .i64 (Lib.compareInt x y)) ∧ w' = w := by
  have e1 : Lib.compareInt x y = if x < y then -1 else if y < x then 1 else 0 := rfl
  rw [e1]
  by_cases h : x < y
  · have h2 : ¬ y < x := by omega
    rw [if_pos h]
    go_enter Yba.func26, Yba.ntmps26
    go_wp2
    go_ret
    exact ⟨rfl, rfl⟩
  · rw [if_neg h]
    by_cases h2 : y < x
    · rw [if_pos h2]
      go_enter Yba.func26, Yba.ntmps26
      go_wp2
      go_ret
      exact ⟨rfl, rfl⟩
    · rw [if_neg h2]
      go_enter Yba.func26, Yba.ntmps26
      go_wp2
      go_ret
      exact ⟨rfl, rfl⟩

theorem compare27 (x y : Int) (w : World) : Calls Yba.prog 27 #[.int .i64 x, .int .i64 y] w fun e w' => e = .returned (.int .i64 (Lib.compareInt x y)) ∧ w' = w := by
  have e1 : Lib.compareInt x y = if x < y then -1 else if y < x then 1 else 0 := rfl
  rw [e1]
  by_cases h : x < y
  · have h2 : ¬ y < x := by omega
    rw [if_pos h]
    go_enter Yba.func27, Yba.ntmps27
    go_wp2
    go_ret
    exact ⟨rfl, rfl⟩
  · rw [if_neg h]
    by_cases h2 : y < x
    · rw [if_pos h2]
      go_enter Yba.func27, Yba.ntmps27
      go_wp2
      go_ret
      exact ⟨rfl, rfl⟩
    · rw [if_neg h2]
      go_enter Yba.func27, Yba.ntmps27
      go_wp2
      go_ret
      exact ⟨rfl, rfl⟩

set_option maxHeartbeats 1000000 in
set_option maxRecDepth 100000 in
theorem compareString (a b : ByteArray) (w : World) : Calls Yba.prog 38 #[.string a, .string b] w fun e w' => e = .returned (.int .i64 (cmpStr a b)) ∧ w' = w := by
  go_enter Yba.func38, Yba.ntmps38
  go_wp2
  rw [run_callFunc_extern Yba.func40 (by kernel_rfl) (by kernel_rfl) (by kernel_rfl) (e := Extern.BytealgCompare.compare) (by kernel_rfl), Lib.run_compareString]
  simp only [Result.andThen]
  rw [Oper.upon_value]
  go_wp2
  go_ret
  exact ⟨rfl, rfl⟩

theorem compareStr (a b : ByteArray) (w : World) : Calls Yba.prog 28 #[.string a, .string b] w fun e w' => e = .returned (.int .i64 (cmpStr a b)) ∧ w' = w := by
  go_enter Yba.func28, Yba.ntmps28
  go_wp2_with (go_at_call 38; refine (compareString _ _ _).mono ?_; rintro e w' ⟨rfl, rfl⟩)
  go_ret
  exact ⟨rfl, rfl⟩

theorem orList_drop (zs : List Int) (k : Nat) (h : k < zs.length) (h0 : zs.getD k 0 = 0) : orList (zs.drop k) = orList (zs.drop (k + 1)) := by
  rw [List.drop_eq_getElem_cons h]
  have : zs[k] = 0 := by simpa [List.getElem?_eq_getElem h] using h0
  simp [orList, this]
theorem orList_hit (zs : List Int) (k : Nat) (h : k < zs.length) (h0 : zs.getD k 0 ≠ 0) : orList (zs.drop k) = zs.getD k 0 := by
  rw [List.drop_eq_getElem_cons h]
  have e : zs.getD k 0 = zs[k] := by simp [List.getElem?_eq_getElem h]
  rw [e] at h0 ⊢
  simp [orList, h0]

set_option maxHeartbeats 400000 in
theorem or_any (g off n c : Nat) (zs : List Int) (w : World) (hn : zs.length = n) (hm : n ≤ 100) (hc : ∀ j, j < n → w.cell? ⟨g, off + j, none⟩ = some (.int .i64 (zs.getD j 0))) :
    Calls Yba.prog 24 #[.slice (some ⟨g, off, none⟩) n c] w fun e w' => e = .returned (.int .i64 (orList zs)) ∧ w' = w := by
  have HC : Hid (∀ j, j < n → w.cell? ⟨g, off + j, none⟩ = some (.int .i64 (zs.getD j 0))) := hc
  have HN : Hid (zs.length = n) := hn
  clear hn hc
  go_enter Yba.func24, Yba.ntmps24
  go_wp2
  go_loop [8] (fun i => ∃ k : Nat, k ≤ n ∧ i = .int .i64 k ∧ Hid (orList zs = orList (zs.drop k))) (fun i => n - (intOf i).toNat)
  case atStart => exact ⟨0, Nat.zero_le _, rfl, rfl⟩
  case round =>
    obtain ⟨k, hk, rfl, hor⟩ := hrel
    by_cases hlt : k < n
    · have c1 := HC.out k hlt
      have hkn : (k : Int) < (n : Int) := by omega
      obtain ⟨z, hz⟩ : ∃ z, z = zs.getD k 0 := ⟨_, rfl⟩
      rw [← hz] at c1
      have HZ : Hid (z = zs.getD k 0) := hz
      clear hz
      by_cases h0 : z = 0
      · subst h0
        go_wp2
        go_round
        case rel => exact ⟨k + 1, by omega, by go_num, hor.out.trans (orList_drop zs k (by rw [HN.out]; omega) HZ.out.symm)⟩
        case measure => simp [intOf]; omega
      · have h1 : (z != 0) = true := by rw [bne_iff_ne]; exact h0
        have HF : Hid (z = orList zs) := by rw [hor.out, orList_hit zs k (by rw [HN.out]; omega) (by rw [← HZ.out]; exact h0)]; exact HZ.out
        go_wp2
        go_ret
        exact ⟨by rw [← HF.out]; rfl, rfl⟩
    · have HF : Hid (0 = orList zs) := by rw [hor.out, List.drop_of_length_le (by rw [HN.out]; omega)]; rfl
      have hkn : ¬ ((k : Int) < (n : Int)) := by omega
      clear hlt
      go_wp2
      go_ret
      exact ⟨by rw [← HF.out]; rfl, rfl⟩
end Go.Proofs.Ybulkbivk
