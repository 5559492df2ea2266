/-
  THE MEMORY THAT LawS2987BCount KEEPS: the leader, the set, three rows of its own.
-/
import Derived.Test.YbulkbivkCnt
namespace Go.Proofs.Ybulkbivk
open Go.RowKit
set_option linter.unusedVariables false

structure StB (w wr : World) (lb q : Int) (S : List Msg) (A V : List Int) (X : List ByteArray) (vK s9 s10 s11 : Value) : Prop where
  below : Below w.heap.size w wr
  lead : wr.heap[w.heap.size]? = some (.cells #[.int .i64 lb, .int .i64 q, .int .i64 0, vK] 50 (0, 0))
  known : wr.ownsRow (w.heap.size + 1) 33 5 vK S.length (cellsOf S)
  accs : wr.ownsRow (w.heap.size + 1) 31 1 s9 A.length (A.map (Value.int .i64))
  vbs : wr.ownsRow (w.heap.size + 1) 3 1 s10 V.length (V.map (Value.int .i64))
  vals : wr.ownsRow (w.heap.size + 1) 9 1 s11 X.length (X.map Value.string)

theorem own_apart {w : World} {base e1 e2 z1 z2 n1 n2 : Nat} {v1 v2 : Value} {x1 x2 : List Value} (h1 : w.ownsRow base e1 z1 v1 n1 x1) (h2 : w.ownsRow base e2 z2 v2 n2 x2) (hne : e1 ≠ e2) : v1.ownBlock = none ∨ v1.ownBlock ≠ v2.ownBlock := by
  rcases h1.2 with ⟨rfl, _⟩ | ⟨g1, c1, u1, rfl, _, b1, _⟩
  · exact .inl rfl
  · right
    rcases h2.2 with ⟨rfl, _⟩ | ⟨g2, c2, u2, rfl, _, b2, _⟩
    · simp [Value.ownBlock]
    · simp only [Value.ownBlock, ne_eq, Option.some.injEq]
      intro he
      subst he
      rw [b1] at b2
      simp at b2
      exact hne b2.2

theorem own_cells {w : World} {base e n : Nat} {v : Value} {α : Type} {f : α → Value} {A : List α} (h : w.ownsRow base e 1 v n (A.map f)) :
    ∃ a cap g, v = .slice a n cap ∧ n ≤ cap ∧ cap ≤ 9223372036854775807 ∧ (0 < n → a = some ⟨g, 0, none⟩) ∧ ∀ j x, A[j]? = some x → w.cell? ⟨g, j, none⟩ = some (f x) := by
  rcases h.2 with ⟨rfl, rfl⟩ | ⟨g, cap, cur, rfl, _, hg, h1, h2, _, h4⟩
  · have : A = [] := List.eq_nil_of_length_eq_zero (by simpa using h.1)
    subst this
    exact ⟨none, 0, 0, rfl, Nat.le_refl _, by omega, fun h => absurd h (Nat.lt_irrefl _), fun j x hj => by simp at hj⟩
  · refine ⟨some ⟨g, 0, none⟩, cap, g, rfl, h1, by unfold maxLen at h2; omega, fun _ => rfl, fun j x hj => ?_⟩
    have hx : (A.map f)[j]? = some (f x) := by rw [List.getElem?_map, hj]; rfl
    rw [← h4, List.getElem?_take] at hx
    split at hx
    · have : cur[j]? = some (f x) := by simpa using hx
      simp [World.cell?, hg, this]
    · cases hx

section
variable {w wr W : World} {lb q : Int} {S : List Msg} {A V : List Int} {X : List ByteArray} {vK s9 s10 s11 : Value}

theorem StB.later (h : StB w wr lb q S A V X vK s9 s10 s11) (hW : Below wr.heap.size wr W) : StB w W lb q S A V X vK s9 s10 s11 where
  below := h.below.trans (hW.mono h.below.size)
  lead := by rw [hW.block _ (lt_of_block h.lead)]; exact h.lead
  known := own_below h.known hW
  accs := own_below h.accs hW
  vbs := own_below h.vbs hW
  vals := own_below h.vals hW

theorem StB.start (w : World) (lb q : Int) : StB w (w.alloc (.cells #[.int .i64 lb, .int .i64 q, .int .i64 0, .slice none 0 0] 50)) lb q [] [] [] [] (.slice none 0 0) (.slice none 0 0) (.slice none 0 0) (.slice none 0 0) where
  below := (Below.refl _ _).alloc (Nat.le_refl _) _
  lead := heap_alloc_new w _
  known := World.ownsRow_nil _ _ _ _
  accs := World.ownsRow_nil _ _ _ _
  vbs := World.ownsRow_nil _ _ _ _
  vals := World.ownsRow_nil _ _ _ _

theorem StB.add (h : StB w wr lb q S A V X vK s9 s10 s11) {L' : List Msg} {e : Ending} (hp : AddPost (w.heap.size + 1) vK L' w.heap.size 3 wr e W) :
    e = .returned (.tuple #[]) ∧ wr.heap.size ≤ W.heap.size ∧ (∀ k, k < wr.heap.size → k ≠ w.heap.size → some k ≠ vK.ownBlock → W.heap[k]? = wr.heap[k]?) ∧ ∃ vK', StB w W lb q L' A V X vK' s9 s10 s11 := by
  obtain ⟨v', rfl, hown, hblk, ho, ht, hou, hsz, hk⟩ := hp
  have keep : ∀ {e z n : Nat} {v : Value} {xs : List Value}, wr.ownsRow (w.heap.size + 1) e z v n xs → e ≠ 33 → W.ownsRow (w.heap.size + 1) e z v n xs := by
    intro e z n v xs hv hne
    refine ⟨hv.1, ?_⟩
    have hap := own_apart hv h.known hne
    rcases hv.2 with hn | ⟨g, cap, cur, rfl, hb, hgg, rest⟩
    · exact .inl hn
    · refine .inr ⟨g, cap, cur, rfl, hb, ?_, rest⟩
      rw [hk g (lt_of_block hgg) (by omega) (by simpa [Value.ownBlock] using hap)]
      exact hgg
  have hKne : ∀ k, k < w.heap.size → some k ≠ vK.ownBlock := fun k hk' he => by have := h.known.lt k he.symm; omega
  refine ⟨rfl, hsz, hk, v', ⟨ho.trans h.below.os, ht.trans h.below.tape, hou.trans h.below.output, Nat.le_trans h.below.size hsz, fun k hk' => ?_⟩, ?_, hown, keep h.accs (by decide), keep h.vbs (by decide), keep h.vals (by decide)⟩
  · rw [hk k (Nat.lt_of_lt_of_le hk' h.below.size) (by omega) (hKne k hk')]
    exact h.below.block k hk'
  · rw [hblk]; exact leader_block h.lead

theorem StB.addCall (h : StB w wr lb q S A V X vK s9 s10 s11) (hn : S.length ≤ 4095) (hS : SortedM S) (m : Msg) :
    Calls Yba.prog 8 #[.pointer (some ⟨w.heap.size, 3, none⟩), .agg m.cells.toArray] wr (AddPost (w.heap.size + 1) vK (addL m S) w.heap.size 3 wr) :=
  add_calls (w.heap.size + 1) w.heap.size 3 vK S m wr hn hS h.known (lt_of_block h.lead) (by omega) (by simp [World.cell?, h.lead]) (by simp [World.frozen?, h.lead])

theorem StB.cellsKept (h : StB w wr lb q S A V X vK s9 s10 s11) {W2 W3 : World} (hk : ∀ k, k < W2.heap.size → k ≠ w.heap.size → some k ≠ vK.ownBlock → W3.heap[k]? = W2.heap[k]?) {k o : Nat} (hk1 : wr.heap.size ≤ k) (hk2 : k < W2.heap.size) :
    W3.cell? ⟨k, o, none⟩ = W2.cell? ⟨k, o, none⟩ :=
  World.cell?_of_block (hk k hk2 (by have := lt_of_block h.lead; omega) (fun he => by have := h.known.lt k he.symm; omega))

theorem StB.grown (h : StB w wr lb q S A V X vK s9 s10 s11) {row : Option Nat} (hg : wr.grownBy W row) (hr : ∀ k, row = some k → w.heap.size + 1 ≤ k) : Below w.heap.size w W ∧ W.heap[w.heap.size]? = some (.cells #[.int .i64 lb, .int .i64 q, .int .i64 0, vK] 50 (0, 0)) :=
  ⟨h.below.grown hg h.below.size (fun k hk => by have := hr k hk; omega), by rw [hg.block _ (lt_of_block h.lead) (fun he => by have := hr _ he.symm; omega)]; exact h.lead⟩

theorem StB.app9 (h : StB w wr lb q S A V X vK s9 s10 s11) {x : Int} {s9' : Value} (ho : W.ownsRow (w.heap.size + 1) 31 1 s9' (A.length + 1) (A.map (Value.int .i64) ++ [.int .i64 x])) (hg : wr.grownBy W s9.ownBlock) :
    StB w W lb q S (A ++ [x]) V X vK s9' s10 s11 where
  below := (h.grown hg (fun k hk => (h.accs.lt k hk).1)).1
  lead := (h.grown hg (fun k hk => (h.accs.lt k hk).1)).2
  known := h.known.kept hg (own_apart h.known h.accs (by decide))
  accs := by simpa using ho
  vbs := h.vbs.kept hg (own_apart h.vbs h.accs (by decide))
  vals := h.vals.kept hg (own_apart h.vals h.accs (by decide))

theorem StB.app10 (h : StB w wr lb q S A V X vK s9 s10 s11) {x : Int} {s' : Value} (ho : W.ownsRow (w.heap.size + 1) 3 1 s' (V.length + 1) (V.map (Value.int .i64) ++ [.int .i64 x])) (hg : wr.grownBy W s10.ownBlock) :
    StB w W lb q S A (V ++ [x]) X vK s9 s' s11 where
  below := (h.grown hg (fun k hk => (h.vbs.lt k hk).1)).1
  lead := (h.grown hg (fun k hk => (h.vbs.lt k hk).1)).2
  known := h.known.kept hg (own_apart h.known h.vbs (by decide))
  accs := h.accs.kept hg (own_apart h.accs h.vbs (by decide))
  vbs := by simpa using ho
  vals := h.vals.kept hg (own_apart h.vals h.vbs (by decide))

theorem StB.app11 (h : StB w wr lb q S A V X vK s9 s10 s11) {x : ByteArray} {s' : Value} (ho : W.ownsRow (w.heap.size + 1) 9 1 s' (X.length + 1) (X.map Value.string ++ [.string x])) (hg : wr.grownBy W s11.ownBlock) :
    StB w W lb q S A V (X ++ [x]) vK s9 s10 s' where
  below := (h.grown hg (fun k hk => (h.vals.lt k hk).1)).1
  lead := (h.grown hg (fun k hk => (h.vals.lt k hk).1)).2
  known := h.known.kept hg (own_apart h.known h.vals (by decide))
  accs := h.accs.kept hg (own_apart h.accs h.vals (by decide))
  vbs := h.vbs.kept hg (own_apart h.vbs h.vals (by decide))
  vals := by simpa using ho
end
end Go.Proofs.Ybulkbivk
