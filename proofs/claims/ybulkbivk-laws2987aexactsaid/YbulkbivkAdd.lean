/-
  CONTRACT: (*messageSet).add (function 8).
-/
import Derived.Test.YbulkbivkBs
import Derived.Test.YbulkbivkIns
import Derived.Test.YbulkbivkOrd
import Derived.Deep.RegionWith
namespace Go.Proofs.Ybulkbivk
open Go.RowKit
attribute [local go_sem ↓] Go.wp_at_zero Go.wp_at_succ
set_option linter.unusedVariables false

theorem cellsOf_get : ∀ (L : List Msg) (j : Nat) (m : Msg), L[j]? = some m → ∀ i v, m.cells[i]? = some v → (cellsOf L)[j * 5 + i]? = some v
  | [], j, m, h, _, _, _ => by simp at h
  | x :: L, 0, m, h, i, v, hi => by
    simp at h; subst h
    have : i < 5 := by have := (List.getElem?_eq_some_iff.1 hi).1; simpa [Msg.cells] using this
    rw [cellsOf_cons, List.getElem?_append_left (by rw [x.cells_length]; omega)]
    simpa using hi
  | x :: L, j + 1, m, h, i, v, hi => by
    have ih := cellsOf_get L j m (by simpa using h) i v hi
    rw [cellsOf_cons, List.getElem?_append_right (by rw [x.cells_length]; omega), x.cells_length]
    rw [show (j + 1) * 5 + i - 5 = j * 5 + i by omega]
    exact ih

theorem own_msgs {w : World} {base : Nat} {v : Value} {L : List Msg} (h : w.ownsRow base 33 5 v L.length (cellsOf L)) :
    ∃ a cap g, v = .slice a L.length cap ∧ (0 < L.length → a = some ⟨g, 0, none⟩) ∧ HasMsgs w g 0 L ∧ L.length ≤ cap ∧ cap ≤ maxLen ∧ (a = none → cap = 0) ∧ (a ≠ none → a = some ⟨g, 0, none⟩ ∧ base ≤ g ∧ g < w.heap.size ∧ v.ownBlock = some g) := by
  rcases h.2 with ⟨rfl, h0⟩ | ⟨g, cap, cur, rfl, hb, hg, h1, h2, h3, h4⟩
  · have : L = [] := List.eq_nil_of_length_eq_zero h0
    subst this
    exact ⟨none, 0, 0, rfl, fun h => absurd h (Nat.lt_irrefl _), fun j m hj => by simp at hj, Nat.le_refl _, Nat.zero_le _, fun _ => rfl, fun h => absurd rfl h⟩
  · refine ⟨some ⟨g, 0, none⟩, cap, g, rfl, fun _ => rfl, ?_, h1, h2, (fun h => by cases h), fun _ => ⟨rfl, hb, (Array.getElem?_eq_some_iff.1 hg).1, rfl⟩⟩
    intro j m hj i u hu
    have hget := cellsOf_get L j m hj i u hu
    rw [← h4, List.getElem?_take] at hget
    split at hget
    · have : cur[j * 5 + i]? = some u := by simpa using hget
      simp [World.cell?, hg, this]
    · cases hget

theorem own_below {w W : World} {base : Nat} {e : TypeId} {size : Nat} {v : Value} {n : Nat} {xs : List Value} (h : w.ownsRow base e size v n xs) (hW : Below w.heap.size w W) : W.ownsRow base e size v n xs :=
  h.kept (row := none) ⟨hW.os, hW.tape, hW.output, hW.size, fun k hk _ => hW.block k hk⟩ (by cases hv : v.ownBlock <;> simp)

/-- What 'add' leaves. -/
def AddPost (base : Nat) (v : Value) (L' : List Msg) (pb po : Nat) (w : World) (e : Ending) (w' : World) : Prop :=
  ∃ v', e = .returned (.tuple #[]) ∧ w'.ownsRow base 33 5 v' L'.length (cellsOf L') ∧ w'.heap[pb]? = (w.setCell ⟨pb, po, none⟩ v').heap[pb]? ∧
    w'.os = w.os ∧ w'.tape = w.tape ∧ w'.output = w.output ∧ w.heap.size ≤ w'.heap.size ∧ ∀ k, k < w.heap.size → k ≠ pb → some k ≠ v.ownBlock → w'.heap[k]? = w.heap[k]?

theorem setCell_self (w : World) (pb po : Nat) (v : Value) (h : w.cell? ⟨pb, po, none⟩ = some v) : (w.setCell ⟨pb, po, none⟩ v).heap[pb]? = w.heap[pb]? := by
  simp only [World.setCell, Array.getElem?_modify, if_true]
  simp only [World.cell?] at h
  split at h
  · rename_i c elem frozen hc
    simp only [Option.isSome_none, Bool.false_eq_true, if_false] at h
    rw [hc]
    simp only [Option.map_some, Option.isSome_none, Bool.false_eq_true, if_false]
    congr 2
    apply Array.ext_getElem?
    intro i
    rw [Array.getElem?_setIfInBounds]
    split
    · rename_i hi
      subst hi
      have hlt := (Array.getElem?_eq_some_iff.1 h).1
      rw [if_pos hlt, h]
    · rfl
  · cases h

theorem cell_past {W : World} {o : Obj} {pb po : Nat} (h : pb < W.heap.size) : ((W.alloc o).drew).cell? ⟨pb, po, none⟩ = W.cell? ⟨pb, po, none⟩ := World.cell?_alloc_past (w := W) o pb po h
theorem frozen_past {W : World} {o : Obj} {pb po : Nat} (h : pb < W.heap.size) : ((W.alloc o).drew).frozen? ⟨pb, po, none⟩ = W.frozen? ⟨pb, po, none⟩ := World.frozen?_alloc_past (w := W) o pb po h
theorem own_slice {w : World} {base : Nat} {e : TypeId} {size : Nat} {v : Value} {n : Nat} {xs : List Value} (h : w.ownsRow base e size v n xs) : ∃ a c, v = .slice a n c := by
  rcases h.2 with ⟨rfl, rfl⟩ | ⟨g, cap, cur, rfl, _⟩
  · exact ⟨none, 0, rfl⟩
  · exact ⟨_, _, rfl⟩
theorem setCell_block {w w2 : World} {pb po : Nat} {x : Value} (h : w2.heap[pb]? = w.heap[pb]?) : (w2.setCell ⟨pb, po, none⟩ x).heap[pb]? = (w.setCell ⟨pb, po, none⟩ x).heap[pb]? := by
  simp only [World.setCell, Array.getElem?_modify, if_true, h]

theorem add_end {base pb po : Nat} {v v' : Value} {L : List Msg} {m : Msg} {w W w2 : World} {o : Obj} {r : Nat} {a' : Option Addr} {c' : Nat} (hown : w.ownsRow base 33 5 v L.length (cellsOf L))
    (h1 : ∀ (j : Nat) (x : Msg), j < r → L[j]? = some x → cmpMsg x m < 0) (h2 : ∀ (j : Nat) (x : Msg), r ≤ j → L[j]? = some x → 0 ≤ cmpMsg x m) (h3 : ¬ ∃ x, L[r]? = some x ∧ cmpMsg x m = 0) (hr : r ≤ L.length) (hpb : pb < base) (hpw : pb < w.heap.size)
    (hW : Below w.heap.size w W) (hsz : w.heap.size < W.heap.size) (hown2 : w2.ownsRow base 33 5 v' (L.length + 1) (cellsOf (L.take r ++ m :: L.drop r))) (hgr : (W.alloc o).drew.grownBy w2 v.ownBlock) (hv' : v' = .slice a' (L.length + 1) c') :
    AddPost base v (addL m L) pb po w (.returned (.tuple #[])) (w2.setCell ⟨pb, po, none⟩ (.slice a' (L.length + 1) c')) := by
  subst hv'
  have hlen : (addL m L).length = L.length + 1 := by rw [addL_place m L r hr h1 h2 h3]; simp; omega
  have hb : ∀ k, k < w.heap.size → some k ≠ v.ownBlock → w2.heap[k]? = w.heap[k]? := fun k hk hne => by
    rw [hgr.block k (by simp; omega) hne]
    show (W.alloc o).heap[k]? = _
    rw [Below.heap_alloc _ _ _ (by omega)]
    exact hW.block k hk
  have hpo : some pb ≠ v.ownBlock := fun h => by have := hown.lt pb h.symm; omega
  refine ⟨.slice a' (L.length + 1) c', rfl, ?_, ?_, ?_, ?_, ?_, ?_, ?_⟩
  · rw [hlen, addL_place m L r hr h1 h2 h3]
    exact ownsRow_setCell_other hown2 (fun h => by have := hown2.lt pb h; omega) _
  · exact setCell_block (hb pb hpw hpo)
  · exact hgr.os.trans hW.os
  · exact hgr.tape.trans hW.tape
  · exact hgr.output.trans hW.output
  · have := hgr.size; simp [World.setCell] at this ⊢; omega
  · intro k hk hkp hne
    rw [Below.heap_setCell _ _ _ _ hkp]
    exact hb k hk hne
theorem below_new {w W : World} {o : Obj} (h : Below w.heap.size w W) : Below w.heap.size w (W.alloc o).drew := (h.alloc h.size o).drew
theorem frozen_grown {w w' : World} {row : Option Nat} (hg : w.grownBy w' row) {a : Addr} (hl : a.block < w.heap.size) (hne : some a.block ≠ row) (h : w.frozen? a = false) : w'.frozen? a = false :=
  (World.frozen?_of_block (hg.block a.block hl hne)).trans h

set_option maxHeartbeats 4000000 in
set_option maxRecDepth 100000 in
theorem add_calls (base pb po : Nat) (v : Value) (L : List Msg) (m : Msg) (w : World) (hn : L.length ≤ 4095) (hS : SortedM L) (hown : w.ownsRow base 33 5 v L.length (cellsOf L)) (hbase : base ≤ w.heap.size) (hpb : pb < base)
    (hp : w.cell? ⟨pb, po, none⟩ = some v) (hpf : w.frozen? ⟨pb, po, none⟩ = false) :
    Calls Yba.prog 8 #[.pointer (some ⟨pb, po, none⟩), .agg m.cells.toArray] w (AddPost base v (addL m L) pb po w) := by
  obtain ⟨a, cap, g, hva, hag, hM, hlc, hcm, hnil, hsm⟩ := own_msgs hown
  have hmono : ∀ (x y : Nat) (mx my : Msg), x ≤ y → L[x]? = some mx → L[y]? = some my → cmpMsg my m < 0 → cmpMsg mx m < 0 := by
    intro x y mx my hxy hx hy hlt
    by_cases he : x = y
    · subst he; rw [hx] at hy; cases hy; exact hlt
    · have h1 := (List.getElem?_eq_some_iff.1 hx)
      have h2 := (List.getElem?_eq_some_iff.1 hy)
      obtain ⟨hxl, rfl⟩ := h1
      obtain ⟨hyl, rfl⟩ := h2
      exact cmpMsg_trans (List.pairwise_iff_getElem.1 hS x y hxl hyl (by omega)) hlt
  have CB : Hid (∀ W, Below w.heap.size w W → Calls Yba.prog 18 #[v, .agg m.cells.toArray, .func (.func 19) #[] #[]] W fun e w' => BsPost L (fun x => cmpMsg x m) L.length W e w') := fun W hW => by
    rw [hva]
    exact bsearch_calls L m a g L.length cap W (by omega) (fun j mj hj i u hu => cell_later hW (hM j mj hj i u hu)) rfl hag hmono
  have CI : Hid (∀ (W : World) (i vb : Nat), Below w.heap.size w W → i ≤ L.length → W.heap[vb]? = some (.cells m.cells.toArray 33 (0, 0)) → w.heap.size ≤ vb →
      Calls Yba.prog 20 #[v, .int .i64 i, .slice (some ⟨vb, 0, none⟩) 1 1] W (InsPost base L.length v (cellsOf (L.take i ++ m :: L.drop i)) W)) := fun W i vb hW hi hvb hlt =>
    insert_calls base v L i vb m W hn hi (own_below hown hW) (Nat.le_trans hbase hW.size) hvb (fun h => by
      have := hown.lt vb h; omega)
  have hpw : pb < w.heap.size := by omega
  have HOWN : Hid (w.ownsRow base 33 5 v L.length (cellsOf L)) := hown
  have HADD : Hid (addL m L = addL m L) := rfl
  have n1 := World.new_ne w ⟨pb, po, none⟩ hp
  clear hmono hM hown hva hag hS hnil hsm
  obtain ⟨mk, ma, mb, mv, ms⟩ := m
  simp only [Msg.cells] at CB CI ⊢
  go_enter Yba.func8, Yba.ntmps8
  go_wp2_with fail
  go_region_held3 (fun w' => w'.cell? ⟨w.heap.size, 0, none⟩ = some (.int .i64 mk) ∧ w'.cell? ⟨w.heap.size, 1, none⟩ = some (.int .i64 ma) ∧ w'.cell? ⟨w.heap.size, 2, none⟩ = some (.int .i64 mb) ∧ w'.cell? ⟨w.heap.size, 3, none⟩ = some (.int .i64 mv) ∧ w'.cell? ⟨w.heap.size, 4, none⟩ = some (.string ms) ∧
      w'.cell? ⟨pb, po, none⟩ = some v)
      (first | go_keep | (repeat' apply And.intro) <;> (refine cell_later hb1 ?_; simp [*]; done))
      (first | (go_at_call 18; refine (CB.out _ ?_).mono ?_; (exact ((Below.refl _ w).alloc (Nat.le_refl _) _).drew); rintro e w' ⟨r, b, rfl, hr, h1, h2, h3, hb1⟩))
  cases b
  · have hW : Below w.heap.size w w' := ((Below.refl _ w).alloc (Nat.le_refl _) _).drew.trans (hb1.mono (by simp))
    have hsz : w.heap.size < w'.heap.size := by have := hb1.size; simp at this; omega
    have hp1 : w'.cell? ⟨pb, po, none⟩ = some v := cell_later hW hp
    have hf1 : w'.frozen? ⟨pb, po, none⟩ = false := (hW.frozen hpw).trans hpf
    have q0 : w'.cell? ⟨w.heap.size, 0, none⟩ = some (.int .i64 mk) := cell_later hb1 (by simp)
    have q1 : w'.cell? ⟨w.heap.size, 1, none⟩ = some (.int .i64 ma) := cell_later hb1 (by simp)
    have q2 : w'.cell? ⟨w.heap.size, 2, none⟩ = some (.int .i64 mb) := cell_later hb1 (by simp)
    have q3 : w'.cell? ⟨w.heap.size, 3, none⟩ = some (.int .i64 mv) := cell_later hb1 (by simp)
    have q4 : w'.cell? ⟨w.heap.size, 4, none⟩ = some (.string ms) := cell_later hb1 (by simp)
    have hpw1 : pb < w'.heap.size := by omega
    have HW : Hid (Below w.heap.size w w') := hW
    have HH : Hid ((∀ (j : Nat) (x : Msg), j < r → L[j]? = some x → cmpMsg x ⟨mk, ma, mb, mv, ms⟩ < 0) ∧ (∀ (j : Nat) (x : Msg), r ≤ j → L[j]? = some x → 0 ≤ cmpMsg x ⟨mk, ma, mb, mv, ms⟩) ∧ ¬ ∃ x, L[r]? = some x ∧ cmpMsg x ⟨mk, ma, mb, mv, ms⟩ = 0) := ⟨h1, h2, fun h => by have := h3.2 h; cases this⟩
    have HPO : Hid (some pb ≠ v.ownBlock) := fun h => by have := HOWN.out.lt pb h.symm; omega
    clear h1 h2 h3 hW hb1
    go_wp2
    go_region_with (go_at_call 20; refine (CI.out _ r w'.heap.size (by exact below_new HW.out) hr (by exact heap_alloc_new w' _) (by exact Nat.le_of_lt hsz)).mono ?_; rintro e w2 ⟨v', rfl, hown2, hgr2⟩; obtain ⟨a', c', hv'⟩ := own_slice hown2; rw [hv']; have hp2 : w2.cell? ⟨pb, po, none⟩ = some v := (hgr2.cell (v := v) (by exact (cell_past hpw1).trans hp1) HPO.out); have hf2 : w2.frozen? ⟨pb, po, none⟩ = false := frozen_grown hgr2 (by exact Nat.lt_of_lt_of_le hpw1 (by simp)) HPO.out (by exact (frozen_past hpw1).trans hf1))
    all_goals go_end0
    all_goals exact add_end HOWN.out HH.out.1 HH.out.2.1 HH.out.2.2 hr hpb hpw HW.out hsz hown2 hgr2 hv'
  · have HA : Hid (addL (Msg.mk mk ma mb mv ms) L = L) := addL_found _ L r h1 (h3.1 rfl)
    go_wp2
    go_end0
    have hW : Below w.heap.size w w' := ((Below.refl _ w).alloc (Nat.le_refl _) _).drew.trans (hb1.mono (by simp))
    refine ⟨v, rfl, ?_, ?_, hW.os, hW.tape, hW.output, hW.size, fun k hk _ _ => hW.block k hk⟩
    · rw [HA.out]; exact own_below HOWN.out hW
    · rw [setCell_self _ _ _ _ hp]; exact hW.block pb hpw
end Go.Proofs.Ybulkbivk
