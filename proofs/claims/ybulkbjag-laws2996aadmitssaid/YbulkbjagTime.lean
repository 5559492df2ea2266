/-
  CONTRACTS: package time's (Time).Add at the zero time, Equal, IsZero.
-/
import Derived.Test.YbulkbjagLock
import Derived.WalkSpells
import Derived.WalkSmall
import Derived.Outline
namespace Go.Proofs.Ybulkbjag
open Go.RowKit
set_option linter.unusedVariables false

theorem and_mask (x : Int) (h0 : 0 ≤ x) (h1 : x < 1000000000) : bits .and .u64 x 1073741823 = x := by
  obtain ⟨n, rfl⟩ := Int.eq_ofNat_of_zero_le h0
  go_bits2
theorem and_mono (x : Int) (h0 : 0 ≤ x) (h1 : x < 1000000000) : bits .and .u64 x 9223372036854775808 = 0 := by
  obtain ⟨n, rfl⟩ := Int.eq_ofNat_of_zero_le h0
  go_bits2
theorem or_zero (x : Int) (h0 : 0 ≤ x) (h1 : x < 1000000000) : bits .or .u64 0 x = x := by
  obtain ⟨n, rfl⟩ := Int.eq_ofNat_of_zero_le h0
  have := bits_or_u64_nat 0 n (by omega) (by omega)
  simpa using this
theorem and_self (x : Int) (h0 : 0 ≤ x) (h1 : x < 1000000000) : bits .and .u64 x x = x := by
  obtain ⟨n, rfl⟩ := Int.eq_ofNat_of_zero_le h0
  have := bits_and_u64_nat n n (by omega) (by omega)
  simpa using this

theorem nsec_calls (b off : Nat) (wl : Int) (w : World) (h0 : 0 ≤ wl) (h1 : wl < 1000000000) (hc : w.cell? ⟨b, off, none⟩ = some (.int .u64 wl)) :
    Calls Yba.prog 15 #[.pointer (some ⟨b, off, none⟩)] w fun e w' => e = .returned (.int .i32 wl) ∧ w' = w := by
  have hm := and_mask wl h0 h1
  go_enter Yba.func15, Yba.ntmps15
  go_wp2
  go_ret
  refine ⟨?_, rfl⟩
  show Ending.returned (.int .i32 _) = _
  congr 2

theorem sec_calls (b off : Nat) (wl ex : Int) (w : World) (h0 : 0 ≤ wl) (h1 : wl < 1000000000) (hc : w.cell? ⟨b, off, none⟩ = some (.int .u64 wl)) (he : w.cell? ⟨b, off + 1, none⟩ = some (.int .i64 ex)) :
    Calls Yba.prog 14 #[.pointer (some ⟨b, off, none⟩)] w fun e w' => e = .returned (.int .i64 ex) ∧ w' = w := by
  have hm := and_mono wl h0 h1
  go_enter Yba.func14, Yba.ntmps14
  go_wp2
  go_ret
  exact ⟨rfl, rfl⟩

set_option maxHeartbeats 1000000 in
theorem addSec_calls (b off : Nat) (wl d : Int) (x : Value) (w : World) (h0 : 0 ≤ wl) (h1 : wl < 1000000000) (hd0 : -9223372036854775807 ≤ d) (hd1 : d ≤ 9223372036854775807) (hc : w.cell? ⟨b, off, none⟩ = some (.int .u64 wl)) (he : w.cell? ⟨b, off + 1, none⟩ = some (.int .i64 0)) (hf : w.frozen? ⟨b, off + 1, none⟩ = false) :
    Calls Yba.prog 16 #[.pointer (some ⟨b, off, none⟩), .int .i64 d] w fun e w' => e = .returned (.tuple #[]) ∧ w' = w.setCell ⟨b, off + 1, none⟩ (.int .i64 d) := by
  have hm := and_mono wl h0 h1
  go_enter Yba.func16, Yba.ntmps16
  go_wp2
  go_end0
  exact ⟨rfl, rfl⟩

/-- The seconds and the nanoseconds of the zero time plus d. -/
def exT (d : Int) : Int := if d.tmod 1000000000 < 0 then d.tdiv 1000000000 - 1 else d.tdiv 1000000000
def wlT (d : Int) : Int := if d.tmod 1000000000 < 0 then d.tmod 1000000000 + 1000000000 else d.tmod 1000000000

theorem tmod_bounds (d : Int) : -1000000000 < d.tmod 1000000000 ∧ d.tmod 1000000000 < 1000000000 := by
  have h1 := Int.tmod_lt_of_pos d (show (0 : Int) < 1000000000 by omega)
  have h2 : -1000000000 < d.tmod 1000000000 := by
    by_cases hd : 0 ≤ d
    · have := Int.tmod_nonneg 1000000000 hd; omega
    · have h3 := Int.tmod_lt_of_pos (-d) (show (0 : Int) < 1000000000 by omega)
      rw [Int.neg_tmod] at h3
      omega
  exact ⟨h2, h1⟩

theorem tdiv_bounds (d : Int) (h0 : -9223372036854775808 ≤ d) (h1 : d ≤ 9223372036854775807) : -9223372037 ≤ d.tdiv 1000000000 ∧ d.tdiv 1000000000 ≤ 9223372037 := by
  have h := Int.tmod_add_mul_tdiv d 1000000000
  have hb := tmod_bounds d
  omega

theorem wlT_bounds (d : Int) : 0 ≤ wlT d ∧ wlT d < 1000000000 := by
  have := tmod_bounds d
  unfold wlT
  split <;> omega

set_option maxHeartbeats 2000000 in
set_option maxRecDepth 100000 in
theorem add_calls (d : Int) (w : World) (hd0 : -9223372036854775808 ≤ d) (hd1 : d ≤ 9223372036854775807) :
    Calls Yba.prog 6 #[.agg #[.int .u64 0, .int .i64 0, .pointer none], .int .i64 d] w fun e w' => e = .returned (.agg #[.int .u64 (wlT d), .int .i64 (exT d), .pointer none]) ∧ Below w.heap.size w w' := by
  have hm := tmod_bounds d
  have hq := tdiv_bounds d hd0 hd1
  obtain ⟨r, hr⟩ : ∃ r, r = d.tmod 1000000000 := ⟨_, rfl⟩
  obtain ⟨q, hqq⟩ : ∃ q, q = d.tdiv 1000000000 := ⟨_, rfl⟩
  rw [← hr] at hm
  rw [← hqq] at hq
  obtain ⟨hm1, hm2⟩ := hm
  obtain ⟨hq1, hq2⟩ := hq
  have e1 := hr.symm
  have e2 := hqq.symm
  clear hr hqq
  have e6 : bits .andNot .u64 0 1073741823 = 0 := by decide
  have e3 : wrap32 r = r := by unfold wrap32; omega
  by_cases hneg : r < 0
  · have HE : Hid (wlT d = r + 1000000000 ∧ exT d = q - 1) := by
      show wlT d = r + 1000000000 ∧ exT d = q - 1
      unfold wlT exT; rw [e1, e2, if_pos hneg, if_pos hneg]; exact ⟨rfl, rfl⟩
    rw [HE.out.1, HE.out.2]
    have e4 : wrap32 (r + 1000000000) = r + 1000000000 := by unfold wrap32; omega
    have e5 : IntKind.u64.wrap (r + 1000000000) = r + 1000000000 := by rw [IntKind.wrap_u64]; omega
    have e7 := or_zero (r + 1000000000) (by omega) (by omega)
    go_enter Yba.func6, Yba.ntmps6
    go_wp2_with fail
    refine (nsec_calls w.heap.size 0 0 _ (by omega) (by omega) (by simp)).mono ?_
    rintro e w1 ⟨rfl, rfl⟩
    go_wp2_with fail
    refine (addSec_calls w.heap.size 0 (r + 1000000000) (q - 1) (.int .i64 0) _ (by omega) (by omega) (by omega) (by omega) (by simp) (by simp) (by simp)).mono ?_
    rintro e w2 ⟨rfl, rfl⟩
    have hmm := and_mono (r + 1000000000) (by omega) (by omega)
    go_wp2
    exact bodyPost_ret (v := .agg #[.int .u64 (r + 1000000000), .int .i64 (q - 1), .pointer none]) (by simp [results, Yba.results6, go_sem]) rfl ⟨rfl, ((Below.refl _ _).alloc (Nat.le_refl _) _).alloc (by simp) _⟩
  · have HE : Hid (wlT d = r ∧ exT d = q) := by
      show wlT d = r ∧ exT d = q
      unfold wlT exT; rw [e1, e2, if_neg hneg, if_neg hneg]; exact ⟨rfl, rfl⟩
    rw [HE.out.1, HE.out.2]
    have e5 : IntKind.u64.wrap r = r := by rw [IntKind.wrap_u64]; omega
    have e7 := or_zero r (by omega) (by omega)
    go_enter Yba.func6, Yba.ntmps6
    go_wp2_with fail
    refine (nsec_calls w.heap.size 0 0 _ (by omega) (by omega) (by simp)).mono ?_
    rintro e w1 ⟨rfl, rfl⟩
    go_wp2_with fail
    refine (addSec_calls w.heap.size 0 (r) (q) (.int .i64 0) _ (by omega) (by omega) (by omega) (by omega) (by simp) (by simp) (by simp)).mono ?_
    rintro e w2 ⟨rfl, rfl⟩
    have hmm := and_mono (r) (by omega) (by omega)
    go_wp2
    exact bodyPost_ret (v := .agg #[.int .u64 (r), .int .i64 (q), .pointer none]) (by simp [results, Yba.results6, go_sem]) rfl ⟨rfl, ((Below.refl _ _).alloc (Nat.le_refl _) _).alloc (by simp) _⟩


set_option maxHeartbeats 1000000 in
set_option maxRecDepth 100000 in
/-- Equal, of a time and itself. -/
theorem equal_calls (wl ex : Int) (w : World) (h0 : 0 ≤ wl) (h1 : wl < 1000000000) :
    Calls Yba.prog 5 #[.agg #[.int .u64 wl, .int .i64 ex, .pointer none], .agg #[.int .u64 wl, .int .i64 ex, .pointer none]] w fun e w' => e = .returned (.bool true) ∧ Below w.heap.size w w' := by
  have e1 := and_self wl h0 h1
  have e2 := and_mono wl h0 h1
  go_enter Yba.func5, Yba.ntmps5
  go_wp2_with fail
  refine (sec_calls w.heap.size 0 wl ex _ h0 h1 (by simp) (by simp)).mono ?_
  rintro e w1 ⟨rfl, rfl⟩
  go_wp2_with fail
  refine (sec_calls (w.heap.size + 1) 0 wl ex _ h0 h1 (by simp) (by simp)).mono ?_
  rintro e w1 ⟨rfl, rfl⟩
  go_wp2_with fail
  refine (nsec_calls w.heap.size 0 wl _ h0 h1 (by simp)).mono ?_
  rintro e w1 ⟨rfl, rfl⟩
  go_wp2_with fail
  refine (nsec_calls (w.heap.size + 1) 0 wl _ h0 h1 (by simp)).mono ?_
  rintro e w1 ⟨rfl, rfl⟩
  go_wp2
  go_ret
  exact ⟨rfl, ((Below.refl _ _).alloc (Nat.le_refl _) _).alloc (by simp) _⟩

theorem isZero_calls (w : World) :
    Calls Yba.prog 7 #[.agg #[.int .u64 0, .int .i64 0, .pointer none]] w fun e w' => e = .returned (.bool true) ∧ Below w.heap.size w w' := by
  go_enter Yba.func7, Yba.ntmps7
  go_wp2
  go_ret
  exact ⟨rfl, (Below.refl _ _).alloc (Nat.le_refl _) _⟩
end Go.Proofs.Ybulkbjag
