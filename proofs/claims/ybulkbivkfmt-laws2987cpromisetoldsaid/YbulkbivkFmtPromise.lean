/-
  CONTRACT: (*LogAcceptorState).Promise (4), the sort's contract given.
-/
import Derived.Test.YbulkbivkFmtVotes
namespace Go.Proofs.YbulkbivkFmt
open Go.RowKit Go.Extern.Stop Go.Stop Go.Extern Go.Maps
attribute [local go_sem ↓] Go.wp_at_zero Go.wp_at_succ
set_option linter.unusedVariables false

def OkPost (ab m : Nat) (b f : Int) (R : List SV) (w : World) (e : Ending) (w' : World) : Prop :=
  ∃ v base, e = .returned (.tuple #[v, .nilIface]) ∧ w'.ownsRow base 27 3 v R.length (svRow R) ∧ w'.heap[ab]? = some (.cells (accC b m f) 34 (0, 0)) ∧ w.grownBy w' (some ab)
def NoPost (w : World) (e : Ending) (w' : World) : Prop := ∃ t p, e = .returned (.tuple #[.slice none 0 0, .iface t (.pointer p)]) ∧ Below w.heap.size w w'

theorem acc_set0 {W : World} {ab m : Nat} {mb f b : Int} (h : W.heap[ab]? = some (.cells (accC mb m f) 34 (0, 0))) : (W.setCell ⟨ab, 0, none⟩ (.int .i64 b)).heap[ab]? = some (.cells (accC b m f) 34 (0, 0)) := by
  rw [setCell_eq_setRow W ab 0 _ _ _ _ h]; exact setRow_heap _ _ _ _ _ _ h
theorem ne_map {W : World} {ab m n : Nat} {D : DataW Unit} {c : Array Value} {t : TypeId} (h : W.heap[ab]? = some (.cells c t (0, 0))) (hm : W.ownsMap Ybaf.prog 3 svElem m n D) : m ≠ ab := by
  obtain ⟨es, clock, hb, _⟩ := hm
  intro e; subst e; rw [hb] at h; cases h
theorem tri_cells {W : World} {k : Nat} {a b c : Value} {t : TypeId} (h : W.heap[k]? = some (.cells #[a, b, c] t (0, 0))) : W.cell? ⟨k, 0, none⟩ = some a ∧ W.cell? ⟨k, 1, none⟩ = some b ∧ W.cell? ⟨k, 2, none⟩ = some c ∧ W.frozen? ⟨k, 0, none⟩ = false := by
  refine ⟨?_, ?_, ?_, ?_⟩ <;> simp [World.cell?, World.frozen?, h]
theorem tri_set0 {W : World} {k : Nat} {a b c a' : Value} {t : TypeId} (h : W.heap[k]? = some (.cells #[a, b, c] t (0, 0))) : (W.setCell ⟨k, 0, none⟩ a').heap[k]? = some (.cells #[a', b, c] t (0, 0)) := by
  rw [setCell_eq_setRow W k 0 _ _ _ _ h]; exact setRow_heap _ _ _ _ _ _ h
theorem own_below {w W : World} {base : Nat} {e : TypeId} {size : Nat} {v : Value} {n : Nat} {xs : List Value} (h : w.ownsRow base e size v n xs) (hW : Below w.heap.size w W) : W.ownsRow base e size v n xs :=
  h.kept (row := none) ⟨hW.os, hW.tape, hW.output, hW.size, fun k hk _ => hW.block k hk⟩ (by cases hv : v.ownBlock <;> simp)
theorem map_below {w W : World} {m n : Nat} {D : DataW Unit} (h : w.ownsMap Ybaf.prog 3 svElem m n D) (hW : Below w.heap.size w W) : W.ownsMap Ybaf.prog 3 svElem m n D :=
  h.kept (row := none) ⟨hW.os, hW.tape, hW.output, hW.size, fun k hk _ => hW.block k hk⟩ (by simp)

set_option maxHeartbeats 2000000 in
set_option maxRecDepth 100000 in
theorem promise_ok (hsort : SortSpec) (ab m n : Nat) (mb f q b : Int) (F : Nat → Option SV) (D : DataW Unit) (w : World) (hn : n ≤ 4096) (hf : 0 ≤ f) (hfq : f ≤ q) (hq1 : q ≤ 1000) (hmb : -1 ≤ mb) (hbb : mb < b) (ha : w.heap[ab]? = some (.cells (accC mb m f) 34 (0, 0))) (hm : w.ownsMap Ybaf.prog 3 svElem m n D) (hD : MapIs D f F) :
    Calls Ybaf.prog 4 #[.pointer (some ⟨ab, 0, none⟩), .int .i64 b, .int .i64 q] w (OkPost ab m b f (resL F f q 256) w) := by
  obtain ⟨x0, x1, x2, xf⟩ := acc_cells ha
  have HA : Hid (w.heap[ab]? = some (.cells (accC mb m f) 34 (0, 0))) := ha
  have HM : Hid (w.ownsMap Ybaf.prog 3 svElem m n D) := hm
  have HD : Hid (MapIs D f F) := hD
  have HSO : Hid SortSpec := hsort
  have hlt : ab < w.heap.size := (Array.getElem?_eq_some_iff.1 ha).1
  have hmne : m ≠ ab := ne_map ha hm
  have C1 : Hid (Calls Ybaf.prog 5 #[.int .i64 q] w fun e w' => e = .returned .nilIface ∧ w' = w) := checkSlot_ok q w (by omega)
  have C2 : Hid (Calls Ybaf.prog 7 #[.pointer (some ⟨ab, 0, none⟩), .int .i64 q] w (InPost mb w)) := inSlot_calls ab m n mb f q D w (by omega) hq1 ha hm
  have hnq : ¬ q < f := by omega
  clear ha hm hD hsort
  go_enter Ybaf.func4, Ybaf.ntmps4
  go_wp2_with fail
  refine Calls.mono C1.out ?_
  rintro e w1 ⟨rfl, hw1⟩
  have hw1' := hw1.symm
  clear hw1
  subst hw1'
  go_wp2_with fail
  refine Calls.mono C2.out ?_
  rintro e w1 ⟨vb, vv, rfl, hb1⟩
  have HB1 : Hid (Below w.heap.size w w1) := hb1
  clear hb1 C1 C2 x0 x1 x2 xf
  go_wp2_with fail
  obtain ⟨W2, hW2⟩ : ∃ W2, W2 = w1.alloc (.cells #[.int .i64 mb, .int .i64 vb, .string vv] 45) := ⟨_, rfl⟩
  have HB2 : Hid (Below w.heap.size w W2) := by rw [hW2]; exact HB1.out.alloc HB1.out.size _
  have Z2 : W2.heap[w1.heap.size]? = some (.cells #[.int .i64 mb, .int .i64 vb, .string vv] 45 (0, 0)) := by rw [hW2]; exact heap_alloc_new _ _
  have hpb : w.heap.size ≤ w1.heap.size := HB1.out.size
  rw [← hW2]
  clear hW2
  generalize w1.heap.size = pb at Z2 hpb ⊢
  obtain ⟨z0, _, _, zf⟩ := tri_cells Z2
  have C3 : Hid (Calls Ybaf.prog 8 #[.pointer (some ⟨pb, 0, none⟩), .int .i64 b] W2 (ApPost b pb W2)) := accPromise_ok pb mb b W2 (by omega) hbb z0 zf
  refine Calls.mono C3.out ?_
  rintro e W3 ⟨rfl, hW3⟩
  have Z3 : W3.heap[pb]? = some (.cells #[.int .i64 b, .int .i64 vb, .string vv] 45 (0, 0)) := by rw [hW3]; exact tri_set0 Z2
  have HB3 : Hid (Below w.heap.size w W3) := by rw [hW3]; exact HB2.out.setCell hpb _
  have A3 : W3.heap[ab]? = some (.cells (accC mb m f) 34 (0, 0)) := (HB3.out.block ab hlt).trans HA.out
  have HM3 : Hid (W3.ownsMap Ybaf.prog 3 svElem m n D) := map_below HM.out HB3.out
  obtain ⟨y0, _, _, _⟩ := tri_cells Z3
  obtain ⟨u0, _, _, uf⟩ := acc_cells A3
  have C4 : Hid (∀ W, W = W3.setCell ⟨ab, 0, none⟩ (.int .i64 b) → Calls Ybaf.prog 9 #[.pointer (some ⟨ab, 0, none⟩), .int .i64 q] W (VotesPost (resL F f q 256) W)) := by
    rintro W rfl
    exact votes_calls HSO.out ab m n b f q F D _ hn (acc_set0 A3) (HM3.out.setCell hmne _) HD.out
  have HA4 : Hid ((W3.setCell ⟨ab, 0, none⟩ (.int .i64 b)).heap[ab]? = some (.cells (accC b m f) 34 (0, 0))) := acc_set0 A3
  clear hW3 Z2 Z3 C3 z0 zf A3 HM HM3 HB1 HB2
  go_wp2_with fail
  refine Calls.mono (C4.out _ rfl) ?_
  rintro e W5 ⟨v5, base5, rfl, ho5, hb5⟩
  have HO5 : Hid (W5.ownsRow base5 27 3 v5 (resL F f q 256).length (svRow (resL F f q 256))) := ho5
  have HA5 : Hid (W5.heap[ab]? = some (.cells (accC b m f) 34 (0, 0))) := (hb5.block ab (by have := HB3.out.size; simp [World.setCell]; omega)).trans HA4.out
  have HG5 : Hid (w.grownBy W5 (some ab)) := by
    refine ⟨hb5.os.trans HB3.out.os, hb5.tape.trans HB3.out.tape, hb5.output.trans HB3.out.output, ?_, fun k hk hne => ?_⟩
    · have h1 := hb5.size; have h2 := HB3.out.size; simp [World.setCell] at h1; omega
    · have hk' : k ≠ ab := fun e => hne (by rw [e])
      rw [hb5.block k (by have := HB3.out.size; simp [World.setCell]; omega), Below.heap_setCell _ _ _ _ hk']
      exact HB3.out.block k hk
  obtain ⟨a5, c5, rfl⟩ := own_slice ho5
  clear ho5 hb5 C4 HA4 HB3 y0 u0 uf
  go_wp2
  go_ret2
  exact ⟨_, _, rfl, HO5.out, HA5.out, HG5.out⟩

set_option maxHeartbeats 2000000 in
set_option maxRecDepth 100000 in
theorem promise_no (F : Interp) (ab m n : Nat) (mb f q b : Int) (D : DataW Unit) (w : World) (hF : F.answers w.tape) (hq0 : -1000 ≤ q) (hq1 : q ≤ 1000) (hno : ¬ (f ≤ q ∧ mb < b)) (hf : 0 ≤ f) (ha : w.heap[ab]? = some (.cells (accC mb m f) 34 (0, 0))) (hm : w.ownsMap Ybaf.prog 3 svElem m n D) :
    Calls Ybaf.prog 4 #[.pointer (some ⟨ab, 0, none⟩), .int .i64 b, .int .i64 q] w (NoPost w) := by
  obtain ⟨x0, x1, x2, xf⟩ := acc_cells ha
  by_cases hneg : q < 0
  · have C1 : Hid (Calls Ybaf.prog 5 #[.int .i64 q] w (ErrPost w)) := checkSlot_bad F q w hF hneg
    clear hF ha hm hno
    go_enter Ybaf.func4, Ybaf.ntmps4
    go_wp2_with fail
    refine Calls.mono C1.out ?_
    rintro e w1 ⟨t, p, rfl, hb⟩
    have HB : Hid (Below w.heap.size w w1) := hb
    clear hb C1
    go_wp2
    go_ret2
    exact ⟨t, p, rfl, HB.out⟩
  · have C1 : Hid (Calls Ybaf.prog 5 #[.int .i64 q] w fun e w' => e = .returned .nilIface ∧ w' = w) := checkSlot_ok q w (by omega)
    by_cases hqf : q < f
    · have CR : Hid (∀ (s : ByteArray) (g : Nat) (x y : Int) (W : World), W.cell? ⟨g, 0, none⟩ = some (.iface 3 (.int .i64 x)) → W.cell? ⟨g, 1, none⟩ = some (.iface 3 (.int .i64 y)) → Calls Ybaf.prog 6 #[.string s, .slice (some ⟨g, 0, none⟩) 2 2] W (ErrPost W)) := fun s g x y W hx hy => refuse_calls s g x y W hx hy
      clear hF ha hm hno
      go_enter Ybaf.func4, Ybaf.ntmps4
      go_wp2_with fail
      refine Calls.mono C1.out ?_
      rintro e w1 ⟨rfl, hw1⟩
      have hw1' := hw1.symm
      clear hw1
      subst hw1'
      go_wp2_with fail
      refine Calls.mono (CR.out _ _ f q _ (by rw [World.cell?_alloc_new]; rfl) (by rw [World.cell?_alloc_new]; rfl)) ?_
      rintro e w1 ⟨t, p, rfl, hb⟩
      have HB : Hid (Below w.heap.size w w1) := ((Below.refl _ w).alloc (Nat.le_refl _) _).trans (hb.mono (by simp))
      clear hb CR C1
      go_wp2
      go_ret2
      exact ⟨t, p, rfl, HB.out⟩
    · have hbm : b ≤ mb := by omega
      have C2 : Hid (Calls Ybaf.prog 7 #[.pointer (some ⟨ab, 0, none⟩), .int .i64 q] w (InPost mb w)) := inSlot_calls ab m n mb f q D w (by omega) hq1 ha hm
      have C3 : Hid (∀ (pb : Nat) (W : World), W.tape = w.tape → W.cell? ⟨pb, 0, none⟩ = some (.int .i64 mb) → Calls Ybaf.prog 8 #[.pointer (some ⟨pb, 0, none⟩), .int .i64 b] W (ErrPost W)) := fun pb W ht hc => accPromise_bad F pb mb b W (by rw [ht]; exact hF) hbm hc
      clear hF ha hm hno
      go_enter Ybaf.func4, Ybaf.ntmps4
      go_wp2_with fail
      refine Calls.mono C1.out ?_
      rintro e w1 ⟨rfl, hw1⟩
      have hw1' := hw1.symm
      clear hw1
      subst hw1'
      go_wp2_with fail
      refine Calls.mono C2.out ?_
      rintro e w1 ⟨vb, vv, rfl, hb1⟩
      have HB1 : Hid (Below w.heap.size w w1) := hb1
      clear hb1 C1 C2 x0 x1 x2 xf
      go_wp2_with fail
      refine Calls.mono (C3.out _ _ HB1.out.tape (by rw [World.cell?_alloc_new]; rfl)) ?_
      rintro e w2 ⟨t, p, rfl, hb⟩
      have HB : Hid (Below w.heap.size w w2) := (HB1.out.alloc HB1.out.size _).trans (hb.mono (by have := HB1.out.size; simp; omega))
      clear hb C3 HB1
      go_wp2
      go_ret2
      exact ⟨t, p, rfl, HB.out⟩
end Go.Proofs.YbulkbivkFmt
