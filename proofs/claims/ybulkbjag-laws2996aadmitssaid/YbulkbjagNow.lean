/-
  CONTRACTS: the law's own clock (Now), (*Limiter).permit, TryAcquire, (*list.List).Len.
-/
import Derived.Test.YbulkbjagTime
import Derived.StillTactics
import Derived.Deep.RegionHeld3
import Derived.Deep.DrawnRows
import Derived.Deep.QuietTactic
import Derived.BigQuiet
import Derived.OwnWalk
namespace Go.Proofs.Ybulkbjag
open Go.RowKit
attribute [local go_sem ↓] Go.wp_at_zero Go.wp_at_succ
set_option linter.unusedVariables false

def timeV (d : Int) : Value := .agg #[.int .u64 (wlT d), .int .i64 (exT d), .pointer none]

theorem cell_later {w W : World} (h : Below w.heap.size w W) {a : Addr} {v : Value} (hc : w.cell? a = some v) : W.cell? a = some v := (h.cell (World.block_lt_of_cell? w _ hc)).trans hc

theorem tri_later {W w' : World} {k : Nat} {a b c : Value} {t : TypeId} (hb : Below W.heap.size W w') (h : W.heap[k]? = some (.cells #[a, b, c] t (0, 0))) :
    (w'.cell? ⟨k, 0, none⟩ = some a ∧ w'.cell? ⟨k, 1, none⟩ = some b ∧ w'.cell? ⟨k, 2, none⟩ = some c) ∧ (w'.frozen? ⟨k, 0, none⟩ = false ∧ w'.frozen? ⟨k, 1, none⟩ = false ∧ w'.frozen? ⟨k, 2, none⟩ = false) ∧ w'.heap[k]? = some (.cells #[a, b, c] t (0, 0)) := by
  have hk := (Array.getElem?_eq_some_iff.1 h).1
  have h' : w'.heap[k]? = some (.cells #[a, b, c] t (0, 0)) := (hb.block k hk).trans h
  refine ⟨⟨?_, ?_, ?_⟩, ⟨?_, ?_, ?_⟩, h'⟩ <;> simp [World.cell?, World.frozen?, h']

theorem below_drop {B : Nat} {w w' : World} (h : Below w.drew.heap.size w.drew w') (hB : B ≤ w.heap.size) : Below B w w' :=
  ((Below.refl B w).drew).trans (h.mono hB)

theorem two_new (w : World) (o1 o2 : Obj) : ((w.alloc o1).alloc o2).heap[w.heap.size + 1]? = some o2 := by
  have := heap_alloc_new (w.alloc o1) o2
  simpa using this

theorem tri_set {W : World} {k : Nat} {a b c a' b' c' : Value} {t : TypeId} (h : W.heap[k]? = some (.cells #[a, b, c] t (0, 0))) :
    (((W.setCell ⟨k, 0, none⟩ a').setCell ⟨k, 1, none⟩ b').setCell ⟨k, 2, none⟩ c').heap[k]? = some (.cells #[a', b', c'] t (0, 0)) := by
  have h1 : (W.setCell ⟨k, 0, none⟩ a').heap[k]? = some (.cells #[a', b, c] t (0, 0)) := by rw [setCell_eq_setRow W k 0 _ _ _ a' h]; exact setRow_heap _ _ _ _ _ _ h
  have h2 : ((W.setCell ⟨k, 0, none⟩ a').setCell ⟨k, 1, none⟩ b').heap[k]? = some (.cells #[a', b', c] t (0, 0)) := by rw [setCell_eq_setRow _ k 1 _ _ _ b' h1]; exact setRow_heap _ _ _ _ _ _ h1
  rw [setCell_eq_setRow _ k 2 _ _ _ c' h2]; exact setRow_heap _ _ _ _ _ _ h2

theorem now_end {w V : World} {cb : Nat} {x0 x1 u a b c : Value} {t : TypeId} (hB : Below w.heap.size w V) (hb : w.heap[cb]? = some (.cells #[x0, x1] t (0, 0))) :
    ((((V.setCell ⟨cb, 1, none⟩ u).setCell ⟨w.heap.size, 0, none⟩ a).setCell ⟨w.heap.size, 1, none⟩ b).setCell ⟨w.heap.size, 2, none⟩ c).heap[cb]? = some (.cells #[x0, u] t (0, 0)) ∧
    w.grownBy ((((V.setCell ⟨cb, 1, none⟩ u).setCell ⟨w.heap.size, 0, none⟩ a).setCell ⟨w.heap.size, 1, none⟩ b).setCell ⟨w.heap.size, 2, none⟩ c) (some cb) := by
  have hlt := (Array.getElem?_eq_some_iff.1 hb).1
  have hV : V.heap[cb]? = some (.cells #[x0, x1] t (0, 0)) := (hB.block cb hlt).trans hb
  refine ⟨?_, hB.os, hB.tape, hB.output, ?_, ?_⟩
  · rw [Below.heap_setCell _ _ _ _ (by show cb ≠ w.heap.size; omega), Below.heap_setCell _ _ _ _ (by show cb ≠ w.heap.size; omega), Below.heap_setCell _ _ _ _ (by show cb ≠ w.heap.size; omega),
      setCell_eq_setRow V cb 1 _ _ _ u hV]
    exact setRow_heap _ _ _ _ _ _ hV
  · have := hB.size; simp [World.setCell]; omega
  · intro k hk hne
    have hne' : k ≠ cb := fun h => hne (by rw [h])
    rw [Below.heap_setCell _ _ _ _ (by show k ≠ w.heap.size; omega), Below.heap_setCell _ _ _ _ (by show k ≠ w.heap.size; omega), Below.heap_setCell _ _ _ _ (by show k ≠ w.heap.size; omega), Below.heap_setCell _ _ _ _ hne']
    exact hB.block k hk

/-- What Now leaves: the time, the clock one call on. -/
def NowPost (cb : Nat) (base calls : Int) (w : World) (e : Ending) (w' : World) : Prop :=
  e = .returned (timeV (wrap64 (base + calls))) ∧ w'.heap[cb]? = some (.cells #[.int .i64 base, .int .i64 (calls + 1)] 24 (0, 0)) ∧ w.grownBy w' (some cb)

set_option maxHeartbeats 600000 in
set_option maxRecDepth 100000 in
theorem now_calls (cb : Nat) (base calls : Int) (w : World) (hc0 : 0 ≤ calls) (hc1 : calls ≤ 4096) (hb : w.heap[cb]? = some (.cells #[.int .i64 base, .int .i64 calls] 24 (0, 0))) :
    Calls Yba.prog 51 #[.pointer (some ⟨cb, 0, none⟩)] w (NowPost cb base calls w) := by
  have x0 : w.cell? ⟨cb, 0, none⟩ = some (.int .i64 base) := by simp [World.cell?, hb]
  have x1 : w.cell? ⟨cb, 1, none⟩ = some (.int .i64 calls) := by simp [World.cell?, hb]
  have HBL : Hid (w.heap[cb]? = some (.cells #[.int .i64 base, .int .i64 calls] 24 (0, 0))) := hb
  have hz : w.frozen? ⟨cb, 1, none⟩ = false := by simp [World.frozen?, hb]
  have hlt : cb < w.heap.size := World.block_lt_of_cell? w _ x0
  have hn1 : ¬ (w.heap.size + 1 = cb) := by omega
  have hn2 : ¬ (cb = w.heap.size + 1) := by omega
  have hn3 : ¬ (w.heap.size = cb) := by omega
  have hn4 : ¬ (cb = w.heap.size) := by omega
  obtain ⟨d, hdd⟩ : ∃ d, d = wrap64 (base + calls) := ⟨_, rfl⟩
  have hd0 : -9223372036854775808 ≤ d := by rw [hdd]; unfold wrap64; omega
  have hd1 : d ≤ 9223372036854775807 := by rw [hdd]; unfold wrap64; omega
  have CA : Hid (∀ W, Calls Yba.prog 6 #[.agg #[.int .u64 0, .int .i64 0, .pointer none], .int .i64 d] W fun e w' => e = .returned (timeV d) ∧ Below W.heap.size W w') := fun W => add_calls d W hd0 hd1
  unfold NowPost
  rw [← hdd]
  have e1 := hdd.symm
  have e2 : IntKind.i64.wrap (base + calls) = d := by rw [IntWalk.i64_left]; exact e1
  have HT : Hid (timeV d = .agg #[.int .u64 (wlT d), .int .i64 (exT d), .pointer none]) := (rfl : timeV d = _)
  generalize wlT d = tw at HT
  generalize exT d = te at HT
  rw [HT.out] at CA ⊢
  clear hdd hb hd0 hd1
  go_enter Yba.func51, Yba.ntmps51
  go_wp2_with fail

  go_region_held3 (fun w' => w'.cell? ⟨cb, 0, none⟩ = some (.int .i64 base) ∧ w'.cell? ⟨cb, 1, none⟩ = some (.int .i64 calls))
      (first | go_keep | (repeat' apply And.intro) <;> (refine cell_later hb1 ?_; simp [*]; done))
      (first | (go_at_call 6; refine (CA.out _).mono ?_; rintro e w' ⟨rfl, hb1⟩; have k0 := cell_later hb1 (a := ⟨cb, 0, none⟩) (v := .int .i64 base) (by simp [*]); have k1 := cell_later hb1 (a := ⟨cb, 1, none⟩) (v := .int .i64 calls) (by simp [*]); have n0 := World.new_ne w' _ k0; have n1 := World.new_ne w' _ k1; obtain ⟨⟨c0, c1, c2⟩, ⟨f0, f1, f2⟩, sz⟩ := tri_later (k := w.heap.size) (a := .int .u64 0) (b := .int .i64 0) (c := .pointer none) (t := 48) hb1 (by first | exact heap_alloc_new w _ | exact (Below.heap_alloc _ _ _ (by simp)).trans (heap_alloc_new w _)); have T2 := tri_later (k := w.heap.size + 1) (a := .int .u64 0) (b := .int .i64 0) (c := .pointer none) (t := 48) hb1; first | (have T3 := T2 (by first | exact two_new w _ _ | fail); obtain ⟨⟨c0', c1', c2'⟩, ⟨f0', f1', f2'⟩, sz'⟩ := T3; clear T2) | clear T2))
  · have hBB : Below w.heap.size w w' := ((Below.refl _ w).alloc (Nat.le_refl _) _).trans (below_drop hb1 (by simp))
    have hszw : w.heap.size < w'.heap.size := (Array.getElem?_eq_some_iff.1 sz).1
    obtain ⟨V, hV⟩ : ∃ V, V = w'.alloc (.cells #[.int .u64 tw, .int .i64 te, .pointer none] 48) := ⟨_, rfl⟩
    have HBB : Hid (Below w.heap.size w V) := by rw [hV]; exact hBB.alloc hBB.size _
    have hb3 : V.heap[w'.heap.size]? = some (.cells #[.int .u64 tw, .int .i64 te, .pointer none] 48 (0, 0)) := by rw [hV]; exact heap_alloc_new _ _
    have hb2 : V.heap[w.heap.size]? = some (.cells #[.int .u64 0, .int .i64 0, .pointer none] 48 (0, 0)) := by rw [hV, Below.heap_alloc _ _ _ hszw]; exact sz
    generalize hg3 : w'.heap.size = g3 at hb3 ⊢
    have hg : ¬ (g3 = cb) := by omega
    have hg' : ¬ (cb = g3) := by omega
    rw [← hV]
    clear hV hBB hb1 c0 c1 c2 f0 f1 f2 sz k0 k1 n0 n1 hszw hg3
    obtain ⟨⟨c0, c1, c2⟩, ⟨f0, f1, f2⟩, _⟩ := tri_later (Below.refl _ V) hb2
    obtain ⟨⟨d0, d1, d2⟩, _, _⟩ := tri_later (Below.refl _ V) hb3
    have k0 := cell_later HBB.out x0
    have k1 := cell_later HBB.out x1
    have z1 := (HBB.out.frozen (p := ⟨cb, 1, none⟩) hlt).trans hz
    clear hb2 hb3 x0 x1 hz CA
    go_wp2
    refine bodyPost_ret (v := .agg #[.int .u64 tw, .int .i64 te, .pointer none]) (by simp [results, Yba.results51, go_sem, *]) rfl ?_
    exact ⟨rfl, now_end HBB.out HBL.out⟩
  · have hBB : Below w.heap.size w w' := (((Below.refl _ w).alloc (Nat.le_refl _) _).alloc (by simp) _).trans (below_drop hb1 (by simp; omega))
    obtain ⟨V, hV⟩ : ∃ V, V = ((w'.setCell ⟨w.heap.size + 1, 0, none⟩ (.int .u64 tw)).setCell ⟨w.heap.size + 1, 1, none⟩ (.int .i64 te)).setCell ⟨w.heap.size + 1, 2, none⟩ (.pointer none) := ⟨_, rfl⟩
    have HBB : Hid (Below w.heap.size w V) := by rw [hV]; exact ((hBB.setCell (by show w.heap.size ≤ w.heap.size + 1; omega) _).setCell (by show w.heap.size ≤ w.heap.size + 1; omega) _).setCell (by show w.heap.size ≤ w.heap.size + 1; omega) _
    have hb3 : V.heap[w.heap.size + 1]? = some (.cells #[.int .u64 tw, .int .i64 te, .pointer none] 48 (0, 0)) := by rw [hV]; exact tri_set sz'
    have hb2 : V.heap[w.heap.size]? = some (.cells #[.int .u64 0, .int .i64 0, .pointer none] 48 (0, 0)) := by rw [hV, Below.heap_setCell _ _ _ _ (by show w.heap.size ≠ w.heap.size + 1; omega), Below.heap_setCell _ _ _ _ (by show w.heap.size ≠ w.heap.size + 1; omega), Below.heap_setCell _ _ _ _ (by show w.heap.size ≠ w.heap.size + 1; omega)]; exact sz
    rw [← hV]
    generalize hg3 : w.heap.size + 1 = g3 at hb3 ⊢
    have hg : ¬ (g3 = cb) := by omega
    have hg' : ¬ (cb = g3) := by omega
    clear hV hBB hb1 c0 c1 c2 f0 f1 f2 sz k0 k1 n0 n1 hg3 c0' c1' c2' f0' f1' f2' sz'
    obtain ⟨⟨c0, c1, c2⟩, ⟨f0, f1, f2⟩, _⟩ := tri_later (Below.refl _ V) hb2
    obtain ⟨⟨d0, d1, d2⟩, _, _⟩ := tri_later (Below.refl _ V) hb3
    have k0 := cell_later HBB.out x0
    have k1 := cell_later HBB.out x1
    have z1 := (HBB.out.frozen (p := ⟨cb, 1, none⟩) hlt).trans hz
    clear hb2 hb3 x0 x1 hz CA
    go_wp2
    refine bodyPost_ret (v := .agg #[.int .u64 tw, .int .i64 te, .pointer none]) (by simp [results, Yba.results51, go_sem, *]) rfl ?_
    exact ⟨rfl, now_end HBB.out HBL.out⟩
end Go.Proofs.Ybulkbjag
