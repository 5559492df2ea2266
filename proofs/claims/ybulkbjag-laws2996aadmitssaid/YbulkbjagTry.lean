/-
  CONTRACTS: (*Limiter).permit, TryAcquire, (*list.List).Len.
-/
import Derived.Test.YbulkbjagNow
namespace Go.Proofs.Ybulkbjag
open Go.RowKit
attribute [local go_sem ↓] Go.wp_at_zero Go.wp_at_succ
set_option linter.unusedVariables false

theorem method_now (a : Addr) (w : World) : (method 215 22 (.pointer (some a)) "Now").run Yba.prog w = .ok (51, .pointer (some a)) w := by kernel_rfl

theorem quad {W : World} {k : Nat} {a b c d : Value} {t : TypeId} (h : W.heap[k]? = some (.cells #[a, b, c, d] t (0, 0))) :
    (W.cell? ⟨k, 0, none⟩ = some a ∧ W.cell? ⟨k, 1, none⟩ = some b ∧ W.cell? ⟨k, 2, none⟩ = some c ∧ W.cell? ⟨k, 3, none⟩ = some d) ∧ (W.frozen? ⟨k, 0, none⟩ = false ∧ W.frozen? ⟨k, 1, none⟩ = false ∧ W.frozen? ⟨k, 2, none⟩ = false ∧ W.frozen? ⟨k, 3, none⟩ = false) := by
  refine ⟨⟨?_, ?_, ?_, ?_⟩, ⟨?_, ?_, ?_, ?_⟩⟩ <;> simp [World.cell?, World.frozen?, h]

theorem grown_set {w V : World} {row : Option Nat} (h : w.grownBy V row) {p : Addr} (hp : w.heap.size ≤ p.block) (u : Value) : w.grownBy (V.setCell p u) row :=
  ⟨h.os, h.tape, h.output, by have := h.size; simp [World.setCell]; omega, fun k hk hne => by rw [Below.heap_setCell _ _ _ _ (by omega)]; exact h.block k hk hne⟩

theorem grown_below {w V V' : World} {row : Option Nat} (h : Below w.heap.size w V) (h' : V.grownBy V' row) : w.grownBy V' row :=
  ⟨h'.os.trans h.os, h'.tape.trans h.tape, h'.output.trans h.output, Nat.le_trans h.size h'.size, fun k hk hne => (h'.block k (Nat.lt_of_lt_of_le hk h.size) hne).trans (h.block k hk)⟩

def permV (lb : Nat) (d : Int) : Value := .agg #[.pointer (some ⟨lb, 0, none⟩), .int .u64 (wlT d), .int .i64 (exT d), .pointer none]

def PermPost (lb cb : Nat) (base calls : Int) (w : World) (e : Ending) (w' : World) : Prop :=
  e = .returned (permV lb (wrap64 (base + calls))) ∧ w'.heap[cb]? = some (.cells #[.int .i64 base, .int .i64 (calls + 1)] 24 (0, 0)) ∧ w.grownBy w' (some cb)

set_option maxHeartbeats 600000 in
set_option maxRecDepth 100000 in
theorem permit_calls (lb cb : Nat) (base calls : Int) (w : World) (hc0 : 0 ≤ calls) (hc1 : calls ≤ 4096) (hb : w.heap[cb]? = some (.cells #[.int .i64 base, .int .i64 calls] 24 (0, 0))) (hl : w.cell? ⟨lb, 0, none⟩ = some (.iface 22 (.pointer (some ⟨cb, 0, none⟩)))) :
    Calls Yba.prog 12 #[.pointer (some ⟨lb, 0, none⟩)] w (PermPost lb cb base calls w) := by
  have hlt : lb < w.heap.size := World.block_lt_of_cell? w _ hl
  have hlc : cb < w.heap.size := (Array.getElem?_eq_some_iff.1 hb).1
  have CN : Hid (∀ W, Below w.heap.size w W → Calls Yba.prog 51 #[.pointer (some ⟨cb, 0, none⟩)] W (NowPost cb base calls W)) := fun W hW => now_calls cb base calls W hc0 hc1 ((hW.block cb hlc).trans hb)
  have HT : Hid (timeV (wrap64 (base + calls)) = .agg #[.int .u64 (wlT (wrap64 (base + calls))), .int .i64 (exT (wrap64 (base + calls))), .pointer none]) := (rfl : timeV _ = _)
  unfold PermPost permV
  generalize wlT (wrap64 (base + calls)) = tw at HT ⊢
  generalize exT (wrap64 (base + calls)) = te at HT ⊢
  have hne : ¬ (some w.heap.size = some cb) := by simp; omega
  clear hb
  have hm := method_now
  go_enter Yba.func12, Yba.ntmps12
  go_wp2_with (go_at_call 51; refine Calls.mono (CN.out _ ((Below.refl _ w).alloc (Nat.le_refl _) _)) ?_; rintro e w1 ⟨he, hcb, hg⟩; rw [HT.out] at he; subst he; obtain ⟨⟨c0, c1, c2, c3⟩, f0, f1, f2, f3⟩ := quad ((hg.block w.heap.size (by simp) hne).trans (heap_alloc_new w _)); have HG : Hid _ := hg; have HC : Hid _ := hcb; clear hg hcb)
  have hg1 := grown_below ((Below.refl _ w).alloc (Nat.le_refl _) _) HG.out
  refine bodyPost_ret (v := .agg #[.pointer (some ⟨lb, 0, none⟩), .int .u64 tw, .int .i64 te, .pointer none]) (by simp [results, Yba.results12, go_sem, *]) rfl ⟨rfl, ?_, grown_set (grown_set (grown_set (grown_set hg1 (Nat.le_refl _) _) (Nat.le_refl _) _) (Nat.le_refl _) _) (Nat.le_refl _) _⟩
  have hnc : cb ≠ w.heap.size := by omega
  rw [Below.heap_setCell _ _ _ _ hnc, Below.heap_setCell _ _ _ _ hnc, Below.heap_setCell _ _ _ _ hnc, Below.heap_setCell _ _ _ _ hnc]
  exact HC.out

/-- The Limiter's cells. -/
def limC (cb : Nat) (mu limit inf : Int) : Array Value :=
  #[.iface 22 (.pointer (some ⟨cb, 0, none⟩)), .int .i32 mu, .int .u32 0, .nilIface, .int .i64 limit, .int .i64 inf, .pointer none, .pointer none, .pointer none, .nilIface, .int .i64 0]

theorem lim_cells {W : World} {lb cb : Nat} {mu limit inf : Int} (h : W.heap[lb]? = some (.cells (limC cb mu limit inf) 44 (0, 0))) :
    W.cell? ⟨lb, 0, none⟩ = some (.iface 22 (.pointer (some ⟨cb, 0, none⟩))) ∧ W.cell? ⟨lb, 1, none⟩ = some (.int .i32 mu) ∧ W.cell? ⟨lb, 4, none⟩ = some (.int .i64 limit) ∧ W.cell? ⟨lb, 5, none⟩ = some (.int .i64 inf) ∧ W.cell? ⟨lb, 10, none⟩ = some (.int .i64 0) ∧
    W.frozen? ⟨lb, 1, none⟩ = false ∧ W.frozen? ⟨lb, 5, none⟩ = false := by
  refine ⟨?_, ?_, ?_, ?_, ?_, ?_, ?_⟩ <;> simp [World.cell?, World.frozen?, h, limC]

theorem lim_set1 {W : World} {lb cb : Nat} {mu limit inf mu' : Int} (h : W.heap[lb]? = some (.cells (limC cb mu limit inf) 44 (0, 0))) :
    (W.setCell ⟨lb, 1, none⟩ (.int .i32 mu')).heap[lb]? = some (.cells (limC cb mu' limit inf) 44 (0, 0)) := by
  rw [setCell_eq_setRow W lb 1 _ _ _ _ h]; exact setRow_heap _ _ _ _ _ _ h

theorem lim_set5 {W : World} {lb cb : Nat} {mu limit inf inf' : Int} (h : W.heap[lb]? = some (.cells (limC cb mu limit inf) 44 (0, 0))) :
    (W.setCell ⟨lb, 5, none⟩ (.int .i64 inf')).heap[lb]? = some (.cells (limC cb mu limit inf') 44 (0, 0)) := by
  rw [setCell_eq_setRow W lb 5 _ _ _ _ h]; exact setRow_heap _ _ _ _ _ _ h

def TryPost (B lb cb : Nat) (base calls limit inf : Int) (w : World) (e : Ending) (w' : World) : Prop :=
  Below B w w' ∧ ((inf < limit ∧ e = .returned (.tuple #[permV lb (wrap64 (base + calls)), .bool true]) ∧ w'.heap[lb]? = some (.cells (limC cb 0 limit (inf + 1)) 44 (0, 0)) ∧ w'.heap[cb]? = some (.cells #[.int .i64 base, .int .i64 (calls + 1)] 24 (0, 0))) ∨
    (¬ inf < limit ∧ e = .returned (.tuple #[.agg #[.pointer none, .int .u64 0, .int .i64 0, .pointer none], .bool false]) ∧ w'.heap[lb]? = some (.cells (limC cb 0 limit inf) 44 (0, 0)) ∧ w'.heap[cb]? = some (.cells #[.int .i64 base, .int .i64 calls] 24 (0, 0))))

set_option maxHeartbeats 1000000 in
set_option maxRecDepth 100000 in
theorem try_calls (B lb cb : Nat) (base calls limit inf : Int) (w : World) (hc0 : 0 ≤ calls) (hc1 : calls ≤ 4096) (hw : inf < limit → wrap64 (inf + 1) = inf + 1) (hBl : B ≤ lb) (hBc : B ≤ cb) (hne : lb ≠ cb)
    (hl : w.heap[lb]? = some (.cells (limC cb 0 limit inf) 44 (0, 0))) (hb : w.heap[cb]? = some (.cells #[.int .i64 base, .int .i64 calls] 24 (0, 0))) :
    Calls Yba.prog 4 #[.pointer (some ⟨lb, 0, none⟩)] w (TryPost B lb cb base calls limit inf w) := by
  have hlt : lb < w.heap.size := (Array.getElem?_eq_some_iff.1 hl).1
  have hlc : cb < w.heap.size := (Array.getElem?_eq_some_iff.1 hb).1
  obtain ⟨W0, hW0⟩ : ∃ W0, W0 = w.alloc (.cells #[.pointer none, .int .u64 0, .int .i64 0, .pointer none] 50) := ⟨_, rfl⟩
  have hB0 : Below w.heap.size w W0 := by rw [hW0]; exact (Below.refl _ w).alloc (Nat.le_refl _) _
  have b0 : W0.heap[w.heap.size]? = some (.cells #[.pointer none, .int .u64 0, .int .i64 0, .pointer none] 50 (0, 0)) := by rw [hW0]; exact heap_alloc_new _ _
  have l0 := (hB0.block lb hlt).trans hl
  have cb0 := (hB0.block cb hlc).trans hb
  have HB0 : Hid (Below w.heap.size w W0) := hB0
  have HL0 : Hid (W0.heap[lb]? = some (.cells (limC cb 0 limit inf) 44 (0, 0))) := l0
  have HC0 : Hid (W0.heap[cb]? = some (.cells #[.int .i64 base, .int .i64 calls] 24 (0, 0))) := cb0
  have HZ0 : Hid (W0.heap[w.heap.size]? = some (.cells #[.pointer none, .int .u64 0, .int .i64 0, .pointer none] 50 (0, 0))) := b0
  have HW : Hid (W0 = w.alloc (.cells #[.pointer none, .int .u64 0, .int .i64 0, .pointer none] 50)) := hW0
  clear l0 cb0 b0 hB0 hW0 hl hb
  obtain ⟨n, hn⟩ : ∃ n, n = w.heap.size := ⟨_, rfl⟩
  go_enter Yba.func4, Yba.ntmps4
  go_wp2_with fail
  rw [← HW.out]
  have q0 := lim_cells HL0.out
  refine (lock_calls lb 1 W0 q0.2.1 q0.2.2.2.2.2.1).mono ?_
  rintro e W1 ⟨rfl, hW1⟩
  have HL1 : Hid (W1.heap[lb]? = some (.cells (limC cb 1 limit inf) 44 (0, 0))) := by rw [hW1]; exact lim_set1 HL0.out
  have HC1 : Hid (W1.heap[cb]? = some (.cells #[.int .i64 base, .int .i64 calls] 24 (0, 0))) := by rw [hW1, Below.heap_setCell _ _ _ _ (Ne.symm hne)]; exact HC0.out
  have HZ1 : Hid (W1.heap[w.heap.size]? = some (.cells #[.pointer none, .int .u64 0, .int .i64 0, .pointer none] 50 (0, 0))) := by rw [hW1, Below.heap_setCell _ _ _ _ (by show w.heap.size ≠ lb; omega)]; exact HZ0.out
  have HB1 : Hid (Below B w W1) := by rw [hW1]; exact (HB0.out.mono (by omega)).setCell hBl _
  clear hW1 q0 HL0 HC0 HZ0 HB0 HW
  obtain ⟨m0, m1, m4, m5, m10, fz1, fz5⟩ := lim_cells HL1.out
  clear m0 m10
  by_cases hroom : inf < limit
  · have hnr : ¬ (limit ≤ inf) := by omega
    go_wp2_with fail
    go_quiet (fail)
    go_wp2_with fail
    have HW5 := hw hroom
    obtain ⟨W2, hW2⟩ : ∃ W2, W2 = (W1.drewN nq).setCell ⟨lb, 5, none⟩ (.int .i64 (inf + 1)) := ⟨_, rfl⟩
    rw [← hW2]
    have hD : Below W1.heap.size W1 (W1.drewN nq) := below_drewN (Below.refl _ _) _
    have L2 : W2.heap[lb]? = some (.cells (limC cb 1 limit (inf + 1)) 44 (0, 0)) := by rw [hW2]; exact lim_set5 ((hD.block lb (Array.getElem?_eq_some_iff.1 HL1.out).1).trans HL1.out)
    have C2 : W2.heap[cb]? = some (.cells #[.int .i64 base, .int .i64 calls] 24 (0, 0)) := by rw [hW2, Below.heap_setCell _ _ _ _ (Ne.symm hne)]; exact (hD.block cb (Array.getElem?_eq_some_iff.1 HC1.out).1).trans HC1.out
    have Z2 : W2.heap[w.heap.size]? = some (.cells #[.pointer none, .int .u64 0, .int .i64 0, .pointer none] 50 (0, 0)) := by rw [hW2, Below.heap_setCell _ _ _ _ (by show w.heap.size ≠ lb; omega)]; exact (hD.block w.heap.size (Array.getElem?_eq_some_iff.1 HZ1.out).1).trans HZ1.out
    have B2 : Below B w W2 := by rw [hW2]; exact (HB1.out.trans (hD.mono (by have := HB1.out.size; omega))).setCell hBl _
    have q2 := lim_cells L2
    refine (unlock_calls lb 1 W2 q2.2.1 q2.2.2.2.2.2.1).mono ?_
    rintro e W3 ⟨rfl, hW3⟩
    have L3 : W3.heap[lb]? = some (.cells (limC cb 0 limit (inf + 1)) 44 (0, 0)) := by rw [hW3]; exact lim_set1 L2
    have C3 : W3.heap[cb]? = some (.cells #[.int .i64 base, .int .i64 calls] 24 (0, 0)) := by rw [hW3, Below.heap_setCell _ _ _ _ (Ne.symm hne)]; exact C2
    have Z3 : W3.heap[w.heap.size]? = some (.cells #[.pointer none, .int .u64 0, .int .i64 0, .pointer none] 50 (0, 0)) := by rw [hW3, Below.heap_setCell _ _ _ _ (by show w.heap.size ≠ lb; omega)]; exact Z2
    have B3 : Hid (Below B w W3) := by rw [hW3]; exact B2.setCell hBl _
    have HL3 : Hid _ := L3
    have HC3 : Hid _ := C3
    have HZ3 : Hid (W3.heap[w.heap.size]? = some (.cells #[.pointer none, .int .u64 0, .int .i64 0, .pointer none] 50 (0, 0))) := Z3
    have CP : Hid (Calls Yba.prog 12 #[.pointer (some ⟨lb, 0, none⟩)] W3 (PermPost lb cb base calls W3)) := permit_calls lb cb base calls W3 hc0 hc1 C3 (lim_cells L3).1
    clear hW2 hW3 L2 C2 Z2 B2 q2 L3 C3 Z3 hD HL1 HC1 HZ1 HB1 m1 m4 m5 fz1 fz5 HW5
    go_wp2_with fail
    refine Calls.mono CP.out ?_
    rintro e W4 ⟨rfl, hcb, hg⟩
    have HL4 : Hid (W4.heap[lb]? = some (.cells (limC cb 0 limit (inf + 1)) 44 (0, 0))) := (hg.block lb (Array.getElem?_eq_some_iff.1 HL3.out).1 (by simp; exact hne)).trans HL3.out
    have HC4 : Hid (W4.heap[cb]? = some (.cells #[.int .i64 base, .int .i64 (calls + 1)] 24 (0, 0))) := hcb
    have Z4 : W4.heap[w.heap.size]? = some (.cells #[.pointer none, .int .u64 0, .int .i64 0, .pointer none] 50 (0, 0)) := (hg.block w.heap.size (Array.getElem?_eq_some_iff.1 HZ3.out).1 (by simp; omega)).trans HZ3.out
    have B4 : Hid (Below B w W4) := B3.out.grown hg (by have := B3.out.size; omega) (fun k hk => by cases hk; exact hBc)
    obtain ⟨⟨c0, c1, c2, c3⟩, f0, f1, f2, f3⟩ := quad Z4
    clear HL3 HC3 HZ3 Z4 hcb hg B3 CP
    have HV : Hid (permV lb (wrap64 (base + calls)) = .agg #[.pointer (some ⟨lb, 0, none⟩), .int .u64 (wlT (wrap64 (base + calls))), .int .i64 (exT (wrap64 (base + calls))), .pointer none]) := (rfl : permV _ _ = _)
    generalize wlT (wrap64 (base + calls)) = tw at HV
    generalize exT (wrap64 (base + calls)) = te at HV
    rw [HV.out]
    go_wp2
    refine bodyPost_ret (v := .tuple #[.agg #[.pointer (some ⟨lb, 0, none⟩), .int .u64 tw, .int .i64 te, .pointer none], .bool true]) (by simp [results, Yba.results4, go_sem, *]) rfl ⟨?_, .inl ⟨hroom, by rw [HV.out], ?_, ?_⟩⟩
    · exact (((B4.out.setCell (by show B ≤ w.heap.size; omega) _).setCell (by show B ≤ w.heap.size; omega) _).setCell (by show B ≤ w.heap.size; omega) _).setCell (by show B ≤ w.heap.size; omega) _
    · have hnc : lb ≠ w.heap.size := by omega
      rw [Below.heap_setCell _ _ _ _ hnc, Below.heap_setCell _ _ _ _ hnc, Below.heap_setCell _ _ _ _ hnc, Below.heap_setCell _ _ _ _ hnc]
      exact HL4.out
    · have hnc : cb ≠ w.heap.size := by omega
      rw [Below.heap_setCell _ _ _ _ hnc, Below.heap_setCell _ _ _ _ hnc, Below.heap_setCell _ _ _ _ hnc, Below.heap_setCell _ _ _ _ hnc]
      exact HC4.out
  · have hnr : limit ≤ inf := by omega
    go_wp2_with fail
    go_quiet (fail)
    go_wp2_with fail
    obtain ⟨W2, hW2⟩ : ∃ W2, W2 = W1.drewN nq := ⟨_, rfl⟩
    rw [← hW2]
    have hD : Below W1.heap.size W1 W2 := by rw [hW2]; exact below_drewN (Below.refl _ _) _
    have L2 := (hD.block lb (Array.getElem?_eq_some_iff.1 HL1.out).1).trans HL1.out
    have C2 := (hD.block cb (Array.getElem?_eq_some_iff.1 HC1.out).1).trans HC1.out
    have Z2 := (hD.block w.heap.size (Array.getElem?_eq_some_iff.1 HZ1.out).1).trans HZ1.out
    have B2 : Below B w W2 := HB1.out.trans (hD.mono (by have := HB1.out.size; omega))
    have q2 := lim_cells L2
    refine (unlock_calls lb 1 W2 q2.2.1 q2.2.2.2.2.2.1).mono ?_
    rintro e W3 ⟨rfl, hW3⟩
    have HL4 : Hid (W3.heap[lb]? = some (.cells (limC cb 0 limit inf) 44 (0, 0))) := by rw [hW3]; exact lim_set1 L2
    have HC4 : Hid (W3.heap[cb]? = some (.cells #[.int .i64 base, .int .i64 calls] 24 (0, 0))) := by rw [hW3, Below.heap_setCell _ _ _ _ (Ne.symm hne)]; exact C2
    have Z3 : W3.heap[w.heap.size]? = some (.cells #[.pointer none, .int .u64 0, .int .i64 0, .pointer none] 50 (0, 0)) := by rw [hW3, Below.heap_setCell _ _ _ _ (by show w.heap.size ≠ lb; omega)]; exact Z2
    have B4 : Hid (Below B w W3) := by rw [hW3]; exact B2.setCell hBl _
    obtain ⟨⟨c0, c1, c2, c3⟩, f0, f1, f2, f3⟩ := quad Z3
    clear hW2 hW3 L2 C2 Z2 B2 q2 Z3 hD HL1 HC1 HZ1 HB1 m1 m4 m5 fz1 fz5
    go_wp2
    refine bodyPost_ret (v := .tuple #[.agg #[.pointer none, .int .u64 0, .int .i64 0, .pointer none], .bool false]) (by simp [results, Yba.results4, go_sem, *]) rfl ⟨?_, .inr ⟨by omega, rfl, ?_, ?_⟩⟩
    · exact (((B4.out.setCell (by show B ≤ w.heap.size; omega) _).setCell (by show B ≤ w.heap.size; omega) _).setCell (by show B ≤ w.heap.size; omega) _).setCell (by show B ≤ w.heap.size; omega) _
    · have hnc : lb ≠ w.heap.size := by omega
      rw [Below.heap_setCell _ _ _ _ hnc, Below.heap_setCell _ _ _ _ hnc, Below.heap_setCell _ _ _ _ hnc, Below.heap_setCell _ _ _ _ hnc]
      exact HL4.out
    · have hnc : cb ≠ w.heap.size := by omega
      rw [Below.heap_setCell _ _ _ _ hnc, Below.heap_setCell _ _ _ _ hnc, Below.heap_setCell _ _ _ _ hnc, Below.heap_setCell _ _ _ _ hnc]
      exact HC4.out

theorem len_calls (b off : Nat) (n : Int) (w : World) (h : w.cell? ⟨b, off + 4, none⟩ = some (.int .i64 n)) :
    Calls Yba.prog 10 #[.pointer (some ⟨b, off, none⟩)] w fun e w' => e = .returned (.int .i64 n) ∧ w' = w := by
  go_enter Yba.func10, Yba.ntmps10
  go_wp2
  go_ret
  exact ⟨rfl, rfl⟩
end Go.Proofs.Ybulkbjag
