/-
  THE MEMORY THAT LawS2987CPromise KEEPS: two arrays and a map; the slice that it is given, opened.
-/
import Derived.Test.YbulkbivkFmtPromise
import Derived.ProofKit
import Derived.OpenShut
import Derived.ShutString
import Derived.ChangeOld
import Derived.Carry
import Derived.Deep.Slices
namespace Go.Proofs.YbulkbivkFmt
open Go.ChangeShapes Go.WideShapes Go.ChangeAt Go.RowKit Go.Deep Go.Maps
set_option linter.unusedVariables false

def Z25 : Array Value := (List.replicate 256 (Value.bool false)).toArray
def Z28 : Array Value := ((List.replicate 256 SV.zero.cells).flatten).toArray
theorem z25 (w : World) : (zeroValue 25).run Ybaf.prog w = .ok (.agg Z25) w := by kernel_rfl
theorem z28 (w : World) : (zeroValue 28).run Ybaf.prog w = .ok (.agg Z28) w := by kernel_rfl

theorem Z25_at {i : Nat} (h : i < 256) : Z25[i]? = some (.bool false) := by
  unfold Z25; rw [List.getElem?_toArray, List.getElem?_replicate, if_pos h]
theorem flat_at (s : SV) : ∀ (n i j : Nat) (v : Value), i < n → s.cells[j]? = some v → ((List.replicate n s.cells).flatten)[i * 3 + j]? = some v
  | 0, _, _, _, h, _ => by omega
  | n + 1, 0, j, v, _, hj => by
    have : j < 3 := by have := (List.getElem?_eq_some_iff.1 hj).1; simpa [SV.cells] using this
    rw [List.replicate_succ, List.flatten_cons, List.getElem?_append_left (by rw [s.cells_len]; omega)]
    simpa using hj
  | n + 1, i + 1, j, v, h, hj => by
    rw [List.replicate_succ, List.flatten_cons, List.getElem?_append_right (by rw [s.cells_len]; omega), s.cells_len]
    rw [show (i + 1) * 3 + j - 3 = i * 3 + j by omega]
    exact flat_at s n i j v (by omega) hj
theorem Z28_at {i j : Nat} {v : Value} (h : i < 256) (hj : SV.zero.cells[j]? = some v) : Z28[i * 3 + j]? = some v := by
  unfold Z28; rw [List.getElem?_toArray]; exact flat_at _ _ _ _ _ h hj

/-- A kept vote's three cells in an array. -/
def EntAt (W : World) (b off : Nat) (s : SV) : Prop :=
  (W.cell? ⟨b, off, none⟩ = some (.int .i64 s.slot) ∧ W.cell? ⟨b, off + 1, none⟩ = some (.int .i64 s.bal) ∧ W.cell? ⟨b, off + 2, none⟩ = some (.string s.val)) ∧
  (W.frozen? ⟨b, off, none⟩ = false ∧ W.frozen? ⟨b, off + 1, none⟩ = false ∧ W.frozen? ⟨b, off + 2, none⟩ = false)

theorem EntAt.of_block {W : World} {b off : Nat} {s : SV} {c : Array Value} {t : TypeId} (hb : W.heap[b]? = some (.cells c t (0, 0))) (e0 : c[off]? = some (.int .i64 s.slot)) (e1 : c[off + 1]? = some (.int .i64 s.bal)) (e2 : c[off + 2]? = some (.string s.val)) : EntAt W b off s := by
  refine ⟨⟨?_, ?_, ?_⟩, ?_, ?_, ?_⟩ <;> simp [World.cell?, World.frozen?, hb, e0, e1, e2]
theorem bool_of_block {W : World} {b i : Nat} {x : Bool} {c : Array Value} {t : TypeId} (hb : W.heap[b]? = some (.cells c t (0, 0))) (e0 : c[i]? = some (.bool x)) : W.cell? ⟨b, i, none⟩ = some (.bool x) ∧ W.frozen? ⟨b, i, none⟩ = false := by
  refine ⟨?_, ?_⟩ <;> simp [World.cell?, World.frozen?, hb, e0]

structure StC (w wr : World) (f : Int) (F : Nat → Option SV) (n : Nat) : Prop where
  below : Below w.heap.size w wr
  big : w.heap.size + 2 < wr.heap.size
  hv : ∀ i, i < 256 → wr.cell? ⟨w.heap.size, i, none⟩ = some (.bool (F i).isSome) ∧ wr.frozen? ⟨w.heap.size, i, none⟩ = false
  en : ∀ i, i < 256 → EntAt wr (w.heap.size + 1) (i * 3) ((F i).getD SV.zero)
  mp : ∃ D, wr.ownsMap Ybaf.prog 3 svElem (w.heap.size + 2) n D ∧ MapIs D f F

theorem EntAt.same {W W' : World} {b off : Nat} {s : SV} (h : EntAt W b off s) (hb : W'.heap[b]? = W.heap[b]?) : EntAt W' b off s := by
  obtain ⟨⟨a1, a2, a3⟩, b1, b2, b3⟩ := h
  have c : ∀ o, W'.cell? ⟨b, o, none⟩ = W.cell? ⟨b, o, none⟩ := fun o => World.cell?_of_block hb
  have z : ∀ o, W'.frozen? ⟨b, o, none⟩ = W.frozen? ⟨b, o, none⟩ := fun o => World.frozen?_of_block hb
  exact ⟨⟨by rw [c]; exact a1, by rw [c]; exact a2, by rw [c]; exact a3⟩, by rw [z]; exact b1, by rw [z]; exact b2, by rw [z]; exact b3⟩

theorem StC.later {w wr W : World} {f : Int} {F : Nat → Option SV} {n : Nat} (h : StC w wr f F n) (hW : Below wr.heap.size wr W) : StC w W f F n where
  below := h.below.trans (hW.mono h.below.size)
  big := Nat.lt_of_lt_of_le h.big hW.size
  hv i hi := by
    have hb := hW.block w.heap.size (by have := h.big; omega)
    exact ⟨(World.cell?_of_block hb).trans (h.hv i hi).1, (World.frozen?_of_block hb).trans (h.hv i hi).2⟩
  en i hi := (h.en i hi).same (hW.block (w.heap.size + 1) (by have := h.big; omega))
  mp := by obtain ⟨D, h1, h2⟩ := h.mp; exact ⟨D, map_below h1 hW, h2⟩

theorem StC.start (w : World) (f : Int) : StC w (((w.alloc (.cells Z25 25)).alloc (.cells Z28 28)).alloc (.map #[] 0)) f (fun _ => none) 0 := by
  have b0 : (((w.alloc (.cells Z25 25)).alloc (.cells Z28 28)).alloc (.map #[] 0)).heap[w.heap.size]? = some (.cells Z25 25 (0, 0)) := by
    rw [Below.heap_alloc _ _ _ (by simp; omega), Below.heap_alloc _ _ _ (by simp)]; exact heap_alloc_new _ _
  have b1 : (((w.alloc (.cells Z25 25)).alloc (.cells Z28 28)).alloc (.map #[] 0)).heap[w.heap.size + 1]? = some (.cells Z28 28 (0, 0)) := by
    rw [Below.heap_alloc _ _ _ (by simp)]
    have := heap_alloc_new (w.alloc (.cells Z25 25)) (.cells Z28 28)
    simpa using this
  refine ⟨(((Below.refl _ _).alloc (Nat.le_refl _) _).alloc (by simp) _).alloc (by simp; omega) _, by simp, fun i hi => ?_, fun i hi => ?_, .map [], ?_, MapIs.start f⟩
  · exact bool_of_block b0 (Z25_at hi)
  · exact EntAt.of_block (s := SV.zero) b1 (Z28_at (j := 0) hi rfl) (Z28_at (j := 1) hi rfl) (Z28_at (j := 2) hi rfl)
  · have := World.ownsMap_made ((w.alloc (.cells Z25 25)).alloc (.cells Z28 28)) Ybaf.prog 3 svElem
    simpa using this

theorem cell_set {W : World} {b o o' : Nat} {v u : Value} (hc : W.cell? ⟨b, o, none⟩ = some u) : (W.setCell ⟨b, o, none⟩ v).cell? ⟨b, o', none⟩ = if o' = o then some v else W.cell? ⟨b, o', none⟩ := by
  by_cases h : o' = o
  · subst h; rw [if_pos rfl]; exact World.cell?_setCell_same _ _ _ hc
  · rw [if_neg h]; exact World.cell?_setCell_other _ _ _ _ (fun e => h (congrArg Addr.off e).symm)

/-- Three cells written. -/
def set3 (W : World) (b o : Nat) (s : SV) : World := ((W.setCell ⟨b, o, none⟩ (.int .i64 s.slot)).setCell ⟨b, o + 1, none⟩ (.int .i64 s.bal)).setCell ⟨b, o + 2, none⟩ (.string s.val)

theorem set3_other {W : World} {b o k : Nat} {s : SV} (h : k ≠ b) : (set3 W b o s).heap[k]? = W.heap[k]? := by
  unfold set3
  rw [Below.heap_setCell _ _ _ _ h, Below.heap_setCell _ _ _ _ h, Below.heap_setCell _ _ _ _ h]
theorem set3_frozen {W : World} {b o : Nat} {s : SV} (a : Addr) : (set3 W b o s).frozen? a = W.frozen? a := by
  unfold set3
  rw [World.frozen?_setCell, World.frozen?_setCell, World.frozen?_setCell]
theorem set3_cell {W : World} {b o : Nat} {s t : SV} (h : EntAt W b o t) (x : Nat) : (set3 W b o s).cell? ⟨b, x, none⟩ = if x = o + 2 then some (.string s.val) else if x = o + 1 then some (.int .i64 s.bal) else if x = o then some (.int .i64 s.slot) else W.cell? ⟨b, x, none⟩ := by
  obtain ⟨⟨a1, a2, a3⟩, _⟩ := h
  have s1 : ∀ y, (W.setCell ⟨b, o, none⟩ (.int .i64 s.slot)).cell? ⟨b, y, none⟩ = if y = o then some (.int .i64 s.slot) else W.cell? ⟨b, y, none⟩ := fun y => cell_set a1
  have s2 : ∀ y, ((W.setCell ⟨b, o, none⟩ (.int .i64 s.slot)).setCell ⟨b, o + 1, none⟩ (.int .i64 s.bal)).cell? ⟨b, y, none⟩ = if y = o + 1 then some (.int .i64 s.bal) else if y = o then some (.int .i64 s.slot) else W.cell? ⟨b, y, none⟩ := fun y => by
    rw [cell_set (u := .int .i64 t.bal) (by rw [s1, if_neg (by omega)]; exact a2), s1]
  unfold set3
  rw [cell_set (u := .string t.val) (by rw [s2, if_neg (by omega), if_neg (by omega)]; exact a3), s2]

theorem ent_put {W : World} {b i : Nat} {F : Nat → Option SV} {s : SV} (hi : i < 256) (h : ∀ j, j < 256 → EntAt W b (j * 3) ((F j).getD SV.zero)) (j : Nat) (hj : j < 256) : EntAt (set3 W b (i * 3) s) b (j * 3) ((upd F i s j).getD SV.zero) := by
  obtain ⟨⟨c1, c2, c3⟩, z1, z2, z3⟩ := h j hj
  refine ⟨⟨?_, ?_, ?_⟩, by rw [set3_frozen]; exact z1, by rw [set3_frozen]; exact z2, by rw [set3_frozen]; exact z3⟩
  · rw [set3_cell (h i hi)]
    by_cases ej : j = i
    · subst ej; rw [if_neg (by omega), if_neg (by omega), if_pos rfl, upd_same]; rfl
    · rw [if_neg (by omega), if_neg (by omega), if_neg (by omega), upd_other F s ej]; exact c1
  · rw [set3_cell (h i hi)]
    by_cases ej : j = i
    · subst ej; rw [if_neg (by omega), if_pos rfl, upd_same]; rfl
    · rw [if_neg (by omega), if_neg (by omega), if_neg (by omega), upd_other F s ej]; exact c2
  · rw [set3_cell (h i hi)]
    by_cases ej : j = i
    · subst ej; rw [if_pos rfl, upd_same]; rfl
    · rw [if_neg (by omega), if_neg (by omega), if_neg (by omega), upd_other F s ej]; exact c3

theorem hv_put {W : World} {b i : Nat} {F : Nat → Option SV} {s : SV} (hi : i < 256) (h : ∀ j, j < 256 → W.cell? ⟨b, j, none⟩ = some (.bool (F j).isSome) ∧ W.frozen? ⟨b, j, none⟩ = false) (j : Nat) (hj : j < 256) :
    (W.setCell ⟨b, i, none⟩ (.bool true)).cell? ⟨b, j, none⟩ = some (.bool (upd F i s j).isSome) ∧ (W.setCell ⟨b, i, none⟩ (.bool true)).frozen? ⟨b, j, none⟩ = false := by
  rw [cell_set (h i hi).1, World.frozen?_setCell]
  refine ⟨?_, (h j hj).2⟩
  by_cases ej : j = i
  · subst ej; rw [if_pos rfl, upd_same]; rfl
  · rw [if_neg ej, upd_other F s ej]; exact (h j hj).1

theorem map_set3 {W : World} {b o m n : Nat} {s : SV} {D : DataW Unit} (h : W.ownsMap Ybaf.prog 3 svElem m n D) (hne : m ≠ b) : (set3 W b o s).ownsMap Ybaf.prog 3 svElem m n D := by
  unfold set3; exact ((h.setCell hne _).setCell hne _).setCell hne _
theorem below_set3 {B : Nat} {w W : World} {b o : Nat} {s : SV} (h : Below B w W) (hb : B ≤ b) : Below B w (set3 W b o s) := by
  unfold set3; exact ((h.setCell hb _).setCell hb _).setCell hb _
theorem size_set3 {W : World} {b o : Nat} {s : SV} : (set3 W b o s).heap.size = W.heap.size := by simp [set3, World.setCell]

/-- One more vote is kept. -/
theorem StC.put {w wr W1 W2 W3 W4 : World} {f : Int} {F : Nat → Option SV} {n hb eb mb : Nat} {D : DataW Unit} {i : Nat} {s : SV} (h : StC w wr f F n) (e0 : hb = w.heap.size) (e1 : eb = w.heap.size + 1) (e2 : mb = w.heap.size + 2) (hN : Below wr.heap.size wr W1) (hi : i < 256) (hs : s.slot = f + i) (hD : MapIs D f F)
    (hm2 : W2.ownsMap Ybaf.prog 3 svElem mb (n + 1) (D.put (.int .i64 (f + i)) (svD s))) (hg : W1.grownBy W2 (some mb)) (h3 : W3 = W2.setCell ⟨hb, i, none⟩ (.bool true)) (h4 : W4 = set3 W3 eb (i * 3) s) :
    StC w W4 f (upd F i s) (n + 1) := by
  have hbig := h.big
  have hN1 := hN.size
  have hg1 := hg.size
  have hbs := h.below.size
  have k0 : W2.heap[hb]? = wr.heap[hb]? := (hg.block _ (by omega) (by simp; omega)).trans (hN.block _ (by omega))
  have k1 : W2.heap[eb]? = wr.heap[eb]? := (hg.block _ (by omega) (by simp; omega)).trans (hN.block _ (by omega))
  have HV : ∀ j, j < 256 → W2.cell? ⟨hb, j, none⟩ = some (.bool (F j).isSome) ∧ W2.frozen? ⟨hb, j, none⟩ = false := fun j hj => by
    rw [World.cell?_of_block k0, World.frozen?_of_block k0, e0]; exact h.hv j hj
  have EN : ∀ j, j < 256 → EntAt W2 eb (j * 3) ((F j).getD SV.zero) := fun j hj => by
    have := h.en j hj
    rw [← e1] at this
    exact this.same k1
  have k3 : W3.heap[eb]? = W2.heap[eb]? := by rw [h3]; exact Below.heap_setCell _ _ _ _ (by show eb ≠ hb; omega)
  have EN3 : ∀ j, j < 256 → EntAt W3 eb (j * 3) ((F j).getD SV.zero) := fun j hj => (EN j hj).same k3
  have k4 : W4.heap[hb]? = W3.heap[hb]? := by rw [h4]; exact set3_other (by omega)
  have s3 : W3.heap.size = W2.heap.size := by rw [h3]; simp [World.setCell]
  have hbel : Below w.heap.size w W2 := ⟨hg.os.trans (hN.os.trans h.below.os), hg.tape.trans (hN.tape.trans h.below.tape), hg.output.trans (hN.output.trans h.below.output), by omega, fun k hk => (hg.block k (by omega) (by simp; omega)).trans ((hN.block k (by omega)).trans (h.below.block k hk))⟩
  have hbel3 : Below w.heap.size w W3 := by rw [h3]; exact hbel.setCell (by show w.heap.size ≤ hb; omega) _
  refine ⟨?_, ?_, fun j hj => ?_, fun j hj => ?_, _, ?_, hD.put hi hs⟩
  · rw [h4]; exact below_set3 hbel3 (by omega)
  · rw [h4, size_set3]; omega
  · rw [← e0, World.cell?_of_block k4, World.frozen?_of_block k4, h3]; exact hv_put hi HV j hj
  · rw [← e1, h4]; exact ent_put hi EN3 j hj
  · rw [← e2, h4, h3]; exact map_set3 (hm2.setCell (by show mb ≠ hb; omega) _) (by omega)
end Go.Proofs.YbulkbivkFmt
