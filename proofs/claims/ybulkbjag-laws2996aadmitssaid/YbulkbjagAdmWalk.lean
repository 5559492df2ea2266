/-
  THE WALK OF LawS2996AAdmits (function 3).
-/
import Derived.Test.YbulkbjagTry
namespace Go.Proofs.Ybulkbjag
open Go.RowKit
attribute [local go_sem ↓] Go.wp_at_zero Go.wp_at_succ
set_option linter.unusedVariables false

theorem run_neq_ptr_same {P : Program} (w : World) {tp te : TypeId} {j : TypeInfo} (a : Addr) (hp : P.underlying tp = some (.pointer te)) (hte : P.info? te = some j) :
    (binOp .neq tp (.pointer (some a)) (.pointer (some a))).run P w = .ok (.bool false) w := by
  have h := run_eql_ptr_same (P := P) w a hp hte
  simp only [binOp] at h ⊢
  simp only [Op.equal, Op.maxDepth] at h ⊢
  have h2 : ∀ d : Nat, (Op.equalIn (d + 1) tp (.pointer (some a)) (.pointer (some a))).run P w = .ok true w := fun d => by
    simp [Op.equalIn, run_underlying hp, sizeOf, typeInfo, hte, run_sameAddr_same]
  simp [h2 9999]
theorem info44 : ((Yba.prog.info? 44).map fun i => i.size) = some 11 := by kernel_rfl
theorem qptr (w : World) (a : Addr) : (binOp .neq 25 (.pointer (some a)) (.pointer (some a))).run Yba.prog w = .ok (.bool false) w := by
  obtain ⟨i, hi, _⟩ := Option.map_eq_some_iff.1 info44
  exact run_neq_ptr_same w a Yba.underlying25 hi

set_option maxHeartbeats 2000000 in
set_option maxRecDepth 100000 in
theorem law_walk (limit inf base n : Int) (w : World) (h0 : 0 ≤ n) (h1 : n ≤ 1024) (hi : -9223372036854775808 ≤ inf) (hl : limit ≤ 9223372036854775807) :
    Calls Yba.prog 3 #[.int .i64 limit, .int .i64 inf, .int .i64 base, .int .i64 n] w fun e w' => e = .returned (.bool true) ∧ Below w.heap.size w w' := by
  have HW : Hid (∀ g : Nat, inf + g < limit → wrap64 (inf + g + 1) = inf + g + 1) := fun g hg => IntWalk.wrap64_in _ ⟨by omega, by omega⟩
  have CT : Hid (∀ (g : Nat) (W : World), g ≤ 1024 → W.heap[w.heap.size + 1]? = some (.cells (limC w.heap.size 0 limit (inf + g)) 44 (0, 0)) → W.heap[w.heap.size]? = some (.cells #[.int .i64 base, .int .i64 g] 24 (0, 0)) →
      Calls Yba.prog 4 #[.pointer (some ⟨w.heap.size + 1, 0, none⟩)] W (TryPost w.heap.size (w.heap.size + 1) w.heap.size base g limit (inf + g) W)) := fun g W hg h1 h2 =>
    try_calls w.heap.size (w.heap.size + 1) w.heap.size base g limit (inf + g) W (by omega) (by omega) (HW.out g) (by omega) (Nat.le_refl _) (by omega) h1 h2
  clear hi hl
  have hd0 : decide (n < 0) = false := decide_eq_false (by omega)
  have hd1 : decide (1024 < n) = false := decide_eq_false (by omega)
  obtain ⟨m, rfl⟩ : ∃ m : Nat, n = (m : Int) := ⟨n.toNat, by omega⟩
  have hm : m ≤ 1024 := by omega
  go_enter Yba.func3, Yba.ntmps3
  go_wp2_with fail
  go_loopw [11, 12, 13] (fun s11 s12 s13 wr => ∃ (k g : Nat), k ≤ m ∧ g ≤ k ∧ s13 = .int .i64 k ∧ s12 = .int .i64 g ∧ s11 = .int .i64 (inf + g) ∧
      Hid (Below w.heap.size w wr) ∧ Hid (wr.heap[w.heap.size + 1]? = some (.cells (limC w.heap.size 0 limit (inf + g)) 44 (0, 0))) ∧ Hid (wr.heap[w.heap.size]? = some (.cells #[.int .i64 base, .int .i64 g] 24 (0, 0)))) (fun _ _ i _ => m - (intOf i).toNat)
  case atStart =>
    refine ⟨0, 0, Nat.zero_le _, Nat.le_refl _, rfl, rfl, ?_, ?_, ?_, ?_⟩
    · simp
    · exact ((Below.refl _ _).alloc (Nat.le_refl _) _).alloc (by simp) _
    · have h := two_new w (.cells #[.int .i64 base, .int .i64 0] 24) (.cells (limC w.heap.size 0 limit inf) 44)
      simp only [Int.natCast_zero, Int.add_zero]
      exact h
    · exact (Below.heap_alloc _ _ _ (by simp)).trans (heap_alloc_new w _)
  case round =>
    obtain ⟨k, g, hk, hgk, rfl, rfl, rfl, HB, HL, HC⟩ := hrel
    by_cases hlt : k < m
    · have hki : (k : Int) < (m : Int) := by omega
      go_wp2_with fail
      refine Calls.mono (CT.out g wr (by omega) HL.out HC.out) ?_
      rintro e w1 ⟨hb1, ⟨hr, rfl, hl1, hc1⟩ | ⟨hr, rfl, hl1, hc1⟩⟩
      · have HB1 : Hid (Below w.heap.size w w1) := HB.out.trans hb1
        have HL1 : Hid (w1.heap[w.heap.size + 1]? = some (.cells (limC w.heap.size 0 limit (inf + g + 1)) 44 (0, 0))) := hl1
        have HC1 : Hid (w1.heap[w.heap.size]? = some (.cells #[.int .i64 base, .int .i64 (g + 1)] 24 (0, 0))) := hc1
        have e1 := HW.out g hr
        have e1' : IntKind.i64.wrap (inf + g + 1) = inf + g + 1 := by rw [IntWalk.i64_left]; exact e1
        have hdr : decide (inf + (g : Int) < limit) = true := decide_eq_true hr
        have hq := qptr
        have HV : Hid (permV (w.heap.size + 1) (wrap64 (base + g)) = .agg #[.pointer (some ⟨w.heap.size + 1, 0, none⟩), .int .u64 (wlT (wrap64 (base + g))), .int .i64 (exT (wrap64 (base + g))), .pointer none]) := (rfl : permV _ _ = _)
        have CA : Hid (∀ W, Calls Yba.prog 6 #[.agg #[.int .u64 0, .int .i64 0, .pointer none], .int .i64 (wrap64 (base + g))] W fun e w' => e = .returned (.agg #[.int .u64 (wlT (wrap64 (base + g))), .int .i64 (exT (wrap64 (base + g))), .pointer none]) ∧ Below W.heap.size W w') := fun W => add_calls (wrap64 (base + g)) W (by unfold wrap64; omega) (by unfold wrap64; omega)
        have CE : Hid (∀ W, Calls Yba.prog 5 #[.agg #[.int .u64 (wlT (wrap64 (base + g))), .int .i64 (exT (wrap64 (base + g))), .pointer none], .agg #[.int .u64 (wlT (wrap64 (base + g))), .int .i64 (exT (wrap64 (base + g))), .pointer none]] W fun e w' => e = .returned (.bool true) ∧ Below W.heap.size W w') := fun W => equal_calls _ _ W (wlT_bounds _).1 (wlT_bounds _).2
        generalize wlT (wrap64 (base + g)) = tw at HV CA CE
        generalize exT (wrap64 (base + g)) = te at HV CA CE
        rw [HV.out]
        obtain ⟨d, hd⟩ : ∃ d, d = wrap64 (base + g) := ⟨_, rfl⟩
        rw [← hd] at CA
        have e2 := hd.symm
        have e2' : IntKind.i64.wrap (base + g) = d := by rw [IntWalk.i64_left]; exact e2
        clear hl1 hc1 hb1 HV HW CT HB HL HC hd
        go_wp2_with fail
        obtain ⟨W2, hW2⟩ : ∃ W2, W2 = w1.alloc (.cells #[.pointer (some ⟨w.heap.size + 1, 0, none⟩), .int .u64 tw, .int .i64 te, .pointer none] 50) := ⟨_, rfl⟩
        have hN2 : Below w1.heap.size w1 W2 := by rw [hW2]; exact (Below.refl _ _).alloc (Nat.le_refl _) _
        obtain ⟨⟨p0, p1, p2, p3⟩, _⟩ := quad (W := W2) (k := w1.heap.size) (by rw [hW2]; exact heap_alloc_new _ _)
        have HN2 : Hid (Below w1.heap.size w1 W2) := hN2
        generalize w1.heap.size = pb at p0 p1 p2 p3 ⊢
        rw [← hW2]
        clear hW2 hN2 hq
        go_region_held3 (fun w' => w'.cell? ⟨pb, 1, none⟩ = some (.int .u64 tw) ∧ w'.cell? ⟨pb, 2, none⟩ = some (.int .i64 te) ∧ w'.cell? ⟨pb, 3, none⟩ = some (.pointer none))
          (first | go_keep | (repeat' apply And.intro) <;> (first | (refine cell_later hb3 ?_; simp [*]; done) | (refine cell_later hb2 ?_; simp [*]; done)))
          (first | (go_at_call 6; refine (CA.out _).mono ?_; rintro e w2 ⟨rfl, hb2⟩) | (go_at_call 5; refine (CE.out _).mono ?_; rintro e w3 ⟨rfl, hb3⟩))
        have hB3 : Below w1.heap.size w1 w3 := HN2.out.trans ((below_drop hb2 HN2.out.size).trans (hb3.mono (Nat.le_trans HN2.out.size hb2.size)))
        have HB3 : Hid (Below w.heap.size w w3) := HB1.out.trans (hB3.mono HB1.out.size)
        have HL3 : Hid (w3.heap[w.heap.size + 1]? = some (.cells (limC w.heap.size 0 limit (inf + g + 1)) 44 (0, 0))) := (hB3.block _ (Array.getElem?_eq_some_iff.1 HL1.out).1).trans HL1.out
        have HC3 : Hid (w3.heap[w.heap.size]? = some (.cells #[.int .i64 base, .int .i64 (g + 1)] 24 (0, 0))) := (hB3.block _ (Array.getElem?_eq_some_iff.1 HC1.out).1).trans HC1.out
        clear hB3 hb2 hb3 HN2 HB1 HL1 HC1 p0 p1 p2 p3 CA CE
        have q3 := lim_cells HL3.out
        obtain ⟨_, m1, _, _, _, fz1, _⟩ := q3
        go_wp2_with fail
        refine (trylock_calls (w.heap.size + 1) 1 w3 m1 fz1).mono ?_
        rintro e w4 ⟨rfl, hw4⟩
        have L4 : w4.heap[w.heap.size + 1]? = some (.cells (limC w.heap.size 1 limit (inf + g + 1)) 44 (0, 0)) := by rw [hw4]; exact lim_set1 HL3.out
        have C4 : Hid (w4.heap[w.heap.size]? = some (.cells #[.int .i64 base, .int .i64 (g + 1)] 24 (0, 0))) := by rw [hw4, Below.heap_setCell _ _ _ _ (by show w.heap.size ≠ w.heap.size + 1; omega)]; exact HC3.out
        have B4 : Hid (Below w.heap.size w w4) := by rw [hw4]; exact HB3.out.setCell (by show w.heap.size ≤ w.heap.size + 1; omega) _
        have HL4 : Hid _ := L4
        obtain ⟨_, m1', _, _, _, fz1', _⟩ := lim_cells L4
        clear hw4 L4 HL3 HC3 HB3 m1 fz1
        go_wp2_with fail
        refine (unlock_calls (w.heap.size + 1) 1 w4 m1' fz1').mono ?_
        rintro e w5 ⟨rfl, hw5⟩
        have HL5 : Hid (w5.heap[w.heap.size + 1]? = some (.cells (limC w.heap.size 0 limit (inf + g + 1)) 44 (0, 0))) := by rw [hw5]; exact lim_set1 HL4.out
        have HC5 : Hid (w5.heap[w.heap.size]? = some (.cells #[.int .i64 base, .int .i64 (g + 1)] 24 (0, 0))) := by rw [hw5, Below.heap_setCell _ _ _ _ (by show w.heap.size ≠ w.heap.size + 1; omega)]; exact C4.out
        have HB5 : Hid (Below w.heap.size w w5) := by rw [hw5]; exact B4.out.setCell (by show w.heap.size ≤ w.heap.size + 1; omega) _
        clear hw5 HL4 C4 B4 m1' fz1'
        go_wp2
        go_roundw
        case rel =>
          refine ⟨k + 1, g + 1, by omega, by omega, by go_num, by go_num, ?_, HB5, ?_, ?_⟩
          · have : inf + (g : Int) + 1 = inf + ((g + 1 : Nat) : Int) := by omega
            rw [this]
          · have : inf + (g : Int) + 1 = inf + ((g + 1 : Nat) : Int) := by omega
            rw [← this]; exact HL5
          · have : ((g + 1 : Nat) : Int) = (g : Int) + 1 := by omega
            rw [this]; exact HC5
        case measure => simp [intOf]; omega
      · have HB1 : Hid (Below w.heap.size w w1) := HB.out.trans hb1
        have HL1 : Hid (w1.heap[w.heap.size + 1]? = some (.cells (limC w.heap.size 0 limit (inf + g)) 44 (0, 0))) := hl1
        have HC1 : Hid (w1.heap[w.heap.size]? = some (.cells #[.int .i64 base, .int .i64 g] 24 (0, 0))) := hc1
        have hdr : decide (inf + (g : Int) < limit) = false := decide_eq_false hr
        have CZ : Hid (∀ W, Calls Yba.prog 7 #[.agg #[.int .u64 0, .int .i64 0, .pointer none]] W fun e w' => e = .returned (.bool true) ∧ Below W.heap.size W w') := fun W => isZero_calls W
        clear hl1 hc1 hb1 HW CT HB HL HC
        go_wp2_with fail
        refine (CZ.out _).mono ?_
        rintro e w3 ⟨rfl, hb3⟩
        have hB3 : Below w1.heap.size w1 w3 := ((Below.refl _ w1).alloc (Nat.le_refl _) _).trans (hb3.mono (by simp))
        have HB3 : Hid (Below w.heap.size w w3) := HB1.out.trans (hB3.mono HB1.out.size)
        have HL3 : Hid (w3.heap[w.heap.size + 1]? = some (.cells (limC w.heap.size 0 limit (inf + g)) 44 (0, 0))) := (hB3.block _ (Array.getElem?_eq_some_iff.1 HL1.out).1).trans HL1.out
        have HC3 : Hid (w3.heap[w.heap.size]? = some (.cells #[.int .i64 base, .int .i64 g] 24 (0, 0))) := (hB3.block _ (Array.getElem?_eq_some_iff.1 HC1.out).1).trans HC1.out
        clear hB3 hb3 HB1 HL1 HC1 CZ
        have q3 := lim_cells HL3.out
        obtain ⟨_, m1, _, _, _, fz1, _⟩ := q3
        go_wp2_with fail
        refine (trylock_calls (w.heap.size + 1) 1 w3 m1 fz1).mono ?_
        rintro e w4 ⟨rfl, hw4⟩
        have L4 : w4.heap[w.heap.size + 1]? = some (.cells (limC w.heap.size 1 limit (inf + g)) 44 (0, 0)) := by rw [hw4]; exact lim_set1 HL3.out
        have C4 : Hid (w4.heap[w.heap.size]? = some (.cells #[.int .i64 base, .int .i64 g] 24 (0, 0))) := by rw [hw4, Below.heap_setCell _ _ _ _ (by show w.heap.size ≠ w.heap.size + 1; omega)]; exact HC3.out
        have B4 : Hid (Below w.heap.size w w4) := by rw [hw4]; exact HB3.out.setCell (by show w.heap.size ≤ w.heap.size + 1; omega) _
        have HL4 : Hid _ := L4
        obtain ⟨_, m1', _, _, _, fz1', _⟩ := lim_cells L4
        clear hw4 L4 HL3 HC3 HB3 m1 fz1
        go_wp2_with fail
        refine (unlock_calls (w.heap.size + 1) 1 w4 m1' fz1').mono ?_
        rintro e w5 ⟨rfl, hw5⟩
        have HL5 : Hid (w5.heap[w.heap.size + 1]? = some (.cells (limC w.heap.size 0 limit (inf + g)) 44 (0, 0))) := by rw [hw5]; exact lim_set1 HL4.out
        have HC5 : Hid (w5.heap[w.heap.size]? = some (.cells #[.int .i64 base, .int .i64 g] 24 (0, 0))) := by rw [hw5, Below.heap_setCell _ _ _ _ (by show w.heap.size ≠ w.heap.size + 1; omega)]; exact C4.out
        have HB5 : Hid (Below w.heap.size w w5) := by rw [hw5]; exact B4.out.setCell (by show w.heap.size ≤ w.heap.size + 1; omega) _
        clear hw5 HL4 C4 B4 m1' fz1'
        go_wp2
        go_roundw
        case rel => exact ⟨k + 1, g, by omega, by omega, by go_num, rfl, rfl, HB5, HL5, HC5⟩
        case measure => simp [intOf]; omega
    · obtain rfl : k = m := by omega
      have hge : ¬ ((k : Int) < (k : Int)) := by omega
      obtain ⟨m0, m1, m4, m5, m10, _, _⟩ := lim_cells HL.out
      have c1 : wr.cell? ⟨w.heap.size, 1, none⟩ = some (.int .i64 g) := by simp [World.cell?, HC.out]
      have CL : Hid (Calls Yba.prog 10 #[.pointer (some ⟨w.heap.size + 1, 6, none⟩)] wr fun e w' => e = .returned (.int .i64 0) ∧ w' = wr) := len_calls (w.heap.size + 1) 6 0 wr m10
      have t1 : (inf + (g : Int) == inf + (g : Int)) = true := beq_self_eq_true _
      have t2 : (limit == limit) = true := beq_self_eq_true _
      have t3 : ((g : Int) == (g : Int)) = true := beq_self_eq_true _
      clear m0 m1 m10 HW CT HL HC hlt
      go_wp2_with fail
      refine Calls.mono CL.out ?_
      rintro e w2 ⟨rfl, rfl⟩
      go_wp2
      go_ret
      exact ⟨rfl, HB.out⟩
end Go.Proofs.Ybulkbjag
