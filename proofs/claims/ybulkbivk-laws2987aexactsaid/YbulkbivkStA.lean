/-
  THE SLICE THAT LawS2987AExact AND LawS2987AAny ARE GIVEN, opened; the memory that they keep.
-/
import Derived.Test.YbulkbivkRowIn
import Derived.Test.YbulkbivkCntWalk
import Derived.Test.YbulkbivkMsgA
import Derived.Test.YbulkbivkProp
namespace Go.Proofs.Ybulkbivk
open Go.ChangeShapes Go.WideShapes Go.ChangeAt Go.RowKit Go.Deep
set_option linter.unusedVariables false

/-- One entry of the slice that LawS2987AExact and LawS2987AAny are given. -/
structure InA where
  k : Int
  a : Int
  b : Int
  vb : Int
  v : Int

def InA.ok (e : InA) : Prop := (0 ≤ e.k ∧ e.k ≤ 255) ∧ (0 ≤ e.a ∧ e.a ≤ 255) ∧ (-128 ≤ e.b ∧ e.b ≤ 127) ∧ (-128 ≤ e.vb ∧ e.vb ≤ 127) ∧ (0 ≤ e.v ∧ e.v ≤ 255)

/-- What the walk is told of that slice. -/
def RowA (w : World) (ad : Option Addr) (len : Nat) (E : List InA) : Prop :=
  E.length = len ∧ (∀ e ∈ E, e.ok) ∧ (0 < len → ∃ b off, ad = some ⟨b, off, none⟩ ∧ b < w.heap.size ∧ ∀ j e, E[j]? = some e →
    w.cell? ⟨b, off + j * 5, none⟩ = some (.int .u8 e.k) ∧ w.cell? ⟨b, off + j * 5 + 1, none⟩ = some (.int .u8 e.a) ∧ w.cell? ⟨b, off + j * 5 + 2, none⟩ = some (.int .i8 e.b) ∧
    w.cell? ⟨b, off + j * 5 + 3, none⟩ = some (.int .i8 e.vb) ∧ w.cell? ⟨b, off + j * 5 + 4, none⟩ = some (.int .u8 e.v))

theorem open_rowA {H : Type} {enc : TypeId × Value → H} {w : World} {base : Nat} {spare : Nat → Bool} {held : Bool} {ad : Option Addr} {len cap : Nat} {d : DataW H} {p : List MemPlace}
    (h : DataW.Trod enc Yba.prog w base spare held 22 (.slice ad len cap) d p) : ∃ E, RowA w ad len E := by
  rcases open_five (P := Yba.prog) Yba.underlying22 Yba.underlying29 (by kernel_rfl) rfl rfl rfl rfl rfl (by kernel_rfl) (by kernel_rfl) (by kernel_rfl) (by kernel_rfl) (by kernel_rfl) h with ⟨rfl, rfl, rfl⟩ | ⟨a, rfl, hl, hm, hx⟩
  · exact ⟨[], rfl, (fun e he => by cases he), fun h => absurd h (Nat.lt_irrefl _)⟩
  · have each : ∀ i, i < len → ∃ e : InA, e.ok ∧ w.cell? (a.add (i * 5)) = some (.int .u8 e.k) ∧ w.cell? (a.add (i * 5 + 1)) = some (.int .u8 e.a) ∧ w.cell? (a.add (i * 5 + 2)) = some (.int .i8 e.b) ∧
        w.cell? (a.add (i * 5 + 3)) = some (.int .i8 e.vb) ∧ w.cell? (a.add (i * 5 + 4)) = some (.int .u8 e.v) := by
      intro i hi
      obtain ⟨v0, v1, v2, v3, v4, y0, y1, y2, y3, y4, n, q0, q1, q2, q3, q4, g0, g1, g2, g3, g4⟩ := hx i hi
      obtain ⟨z0, e0, _, w0⟩ := DataW.trod_int Yba.underlying5 g0
      obtain ⟨z1, e1, _, w1⟩ := DataW.trod_int Yba.underlying5 g1
      obtain ⟨z2, e2, _, w2⟩ := DataW.trod_int Yba.underlying23 g2
      obtain ⟨z3, e3, _, w3⟩ := DataW.trod_int Yba.underlying23 g3
      obtain ⟨z4, e4, _, w4⟩ := DataW.trod_int Yba.underlying5 g4
      simp only [List.cons.injEq, and_true] at e0 e1 e2 e3 e4
      subst e0 e1 e2 e3 e4
      have b0 := bounds_u8 w0
      have b1 := bounds_u8 w1
      have b2 := bounds_i8 w2
      have b3 := bounds_i8 w3
      have b4 := bounds_u8 w4
      exact ⟨⟨z0, z1, z2, z3, z4⟩, ⟨b0, b1, b2, b3, b4⟩, q0, q1, q2, q3, q4⟩
    have hinh : Inhabited InA := ⟨⟨0, 0, 0, 0, 0⟩⟩
    obtain ⟨f, hf⟩ := @choose_lt InA hinh _ _ each
    refine ⟨(List.range len).map f, by simp, ?_, ?_⟩
    · intro e he
      simp only [List.mem_map, List.mem_range] at he
      obtain ⟨i, hi, rfl⟩ := he
      exact (hf i hi).1
    · intro h0
      obtain ⟨b, off, spot⟩ := a
      have hsp : spot = none := by simpa [Addr.add] using World.cell?_spot (hf 0 h0).2.1
      subst hsp
      refine ⟨b, off, rfl, ?_, ?_⟩
      · have := World.block_lt_of_cell? w _ (hf 0 h0).2.1; rw [add_plain] at this; exact this
      · intro j e he
        rw [List.getElem?_map, Option.map_eq_some_iff] at he
        obtain ⟨i, hi, rfl⟩ := he
        have hij := List.getElem?_eq_some_iff.1 hi
        obtain ⟨hjl, hji⟩ := hij
        simp at hji hjl
        subst hji
        have := (hf j hjl).2
        simp only [add_plain, ← Nat.add_assoc] at this
        exact this

/-- The memory of the walk: the set's box, the ballots' row, the values' row. -/
structure StA (w wr : World) (S : List Msg) (B : List Int) (X : List ByteArray) (vK sB sX : Value) : Prop where
  below : Below w.heap.size w wr
  box : wr.heap[w.heap.size]? = some (.cells #[vK] 25 (0, 0))
  known : wr.ownsRow (w.heap.size + 1) 33 5 vK S.length (cellsOf S)
  bals : wr.ownsRow (w.heap.size + 1) 3 1 sB B.length (B.map (Value.int .i64))
  vals : wr.ownsRow (w.heap.size + 1) 9 1 sX X.length (X.map Value.string)

theorem box_block {W : World} {pb : Nat} {x0 v : Value} {t : TypeId} (h : W.heap[pb]? = some (.cells #[x0] t (0, 0))) :
    (W.setCell ⟨pb, 0, none⟩ v).heap[pb]? = some (.cells #[v] t (0, 0)) := by
  rw [setCell_eq_setRow W pb 0 _ _ _ v h]
  exact setRow_heap _ _ _ _ _ _ h

section
variable {w wr W : World} {S : List Msg} {B : List Int} {X : List ByteArray} {vK sB sX : Value}

theorem StA.later (h : StA w wr S B X vK sB sX) (hW : Below wr.heap.size wr W) : StA w W S B X vK sB sX where
  below := h.below.trans (hW.mono h.below.size)
  box := by rw [hW.block _ (lt_of_block h.box)]; exact h.box
  known := own_below h.known hW
  bals := own_below h.bals hW
  vals := own_below h.vals hW

theorem StA.start (w : World) : StA w (w.alloc (.cells #[.slice none 0 0] 25)) [] [] [] (.slice none 0 0) (.slice none 0 0) (.slice none 0 0) where
  below := (Below.refl _ _).alloc (Nat.le_refl _) _
  box := heap_alloc_new w _
  known := World.ownsRow_nil _ _ _ _
  bals := World.ownsRow_nil _ _ _ _
  vals := World.ownsRow_nil _ _ _ _

theorem StA.add (h : StA w wr S B X vK sB sX) {L' : List Msg} {e : Ending} (hp : AddPost (w.heap.size + 1) vK L' w.heap.size 0 wr e W) :
    e = .returned (.tuple #[]) ∧ wr.heap.size ≤ W.heap.size ∧ ∃ vK', StA w W L' B X vK' sB sX := by
  obtain ⟨v', rfl, hown, hblk, ho, ht, hou, hsz, hk⟩ := hp
  have keep : ∀ {e z n : Nat} {v : Value} {xs : List Value}, wr.ownsRow (w.heap.size + 1) e z v n xs → e ≠ 33 → W.ownsRow (w.heap.size + 1) e z v n xs := by
    intro e z n v xs hv hne
    refine ⟨hv.1, ?_⟩
    have hap := own_apart hv h.known hne
    rcases hv.2 with hn | ⟨g, cap, cur, rfl, hb, hgg, rest⟩
    · exact .inl hn
    · refine .inr ⟨g, cap, cur, rfl, hb, ?_, rest⟩
      rw [hk g (lt_of_block hgg) (by omega) (by simpa [Value.ownBlock] using hap)]
      exact hgg
  have hKne : ∀ k, k < w.heap.size → some k ≠ vK.ownBlock := fun k hk' he => by have := h.known.lt k he.symm; omega
  refine ⟨rfl, hsz, v', ⟨ho.trans h.below.os, ht.trans h.below.tape, hou.trans h.below.output, Nat.le_trans h.below.size hsz, fun k hk' => ?_⟩, ?_, hown, keep h.bals (by decide), keep h.vals (by decide)⟩
  · rw [hk k (Nat.lt_of_lt_of_le hk' h.below.size) (by omega) (hKne k hk')]
    exact h.below.block k hk'
  · rw [hblk]; exact box_block h.box

theorem StA.addCall (h : StA w wr S B X vK sB sX) (hn : S.length ≤ 4095) (hS : SortedM S) (m : Msg) :
    Calls Yba.prog 8 #[.pointer (some ⟨w.heap.size, 0, none⟩), .agg m.cells.toArray] wr (AddPost (w.heap.size + 1) vK (addL m S) w.heap.size 0 wr) :=
  add_calls (w.heap.size + 1) w.heap.size 0 vK S m wr hn hS h.known (lt_of_block h.box) (by omega) (by simp [World.cell?, h.box]) (by simp [World.frozen?, h.box])

theorem StA.grown (h : StA w wr S B X vK sB sX) {row : Option Nat} (hg : wr.grownBy W row) (hr : ∀ k, row = some k → w.heap.size + 1 ≤ k) : Below w.heap.size w W ∧ W.heap[w.heap.size]? = some (.cells #[vK] 25 (0, 0)) :=
  ⟨h.below.grown hg h.below.size (fun k hk => by have := hr k hk; omega), by rw [hg.block _ (lt_of_block h.box) (fun he => by have := hr _ he.symm; omega)]; exact h.box⟩

theorem StA.appB (h : StA w wr S B X vK sB sX) {x : Int} {s' : Value} (ho : W.ownsRow (w.heap.size + 1) 3 1 s' (B.length + 1) (B.map (Value.int .i64) ++ [.int .i64 x])) (hg : wr.grownBy W sB.ownBlock) :
    StA w W S (B ++ [x]) X vK s' sX where
  below := (h.grown hg (fun k hk => (h.bals.lt k hk).1)).1
  box := (h.grown hg (fun k hk => (h.bals.lt k hk).1)).2
  known := h.known.kept hg (own_apart h.known h.bals (by decide))
  bals := by simpa using ho
  vals := h.vals.kept hg (own_apart h.vals h.bals (by decide))

theorem StA.appX (h : StA w wr S B X vK sB sX) {x : ByteArray} {s' : Value} (ho : W.ownsRow (w.heap.size + 1) 9 1 s' (X.length + 1) (X.map Value.string ++ [.string x])) (hg : wr.grownBy W sX.ownBlock) :
    StA w W S B (X ++ [x]) vK sB s' where
  below := (h.grown hg (fun k hk => (h.vals.lt k hk).1)).1
  box := (h.grown hg (fun k hk => (h.vals.lt k hk).1)).2
  known := h.known.kept hg (own_apart h.known h.vals (by decide))
  bals := h.bals.kept hg (own_apart h.bals h.vals (by decide))
  vals := by simpa using ho
end
end Go.Proofs.Ybulkbivk
