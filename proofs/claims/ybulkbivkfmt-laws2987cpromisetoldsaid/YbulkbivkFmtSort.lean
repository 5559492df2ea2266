/-
  THE SORT's CONTRACT (SortSpec), from the shelf's slices.SortFunc.
-/
import Derived.Test.YbulkbivkFmtVotes
import Derived.Test.YbulkbivkFmtLay
import Derived.Lib.Small
namespace Go.Proofs.YbulkbivkFmt
open Go.RowKit Go.Shelf Go.Lib Go.Sort
set_option linter.unusedVariables false

theorem compare14 (x y : Int) (w : World) : Calls Ybaf.prog 14 #[.int .i64 x, .int .i64 y] w fun e w' => e = .returned (.int .i64 (Lib.compareInt x y)) ∧ w' = w := by
  have e1 : Lib.compareInt x y = if x < y then -1 else if y < x then 1 else 0 := rfl
  rw [e1]
  by_cases h : x < y
  · have h2 : ¬ y < x := by omega
    rw [if_pos h]
    go_enter Ybaf.func14, Ybaf.ntmps14
    go_wp2
    go_ret
    exact ⟨rfl, rfl⟩
  · rw [if_neg h]
    by_cases h2 : y < x
    · rw [if_pos h2]
      go_enter Ybaf.func14, Ybaf.ntmps14
      go_wp2
      go_ret
      exact ⟨rfl, rfl⟩
    · rw [if_neg h2]
      go_enter Ybaf.func14, Ybaf.ntmps14
      go_wp2
      go_ret
      exact ⟨rfl, rfl⟩

set_option maxHeartbeats 1000000 in
theorem closure13 (x y : SV) (W : World) : Calls Ybaf.prog 13 #[.agg x.cells.toArray, .agg y.cells.toArray] W fun e w' => e = .returned (.int .i64 (Lib.compareInt x.slot y.slot)) ∧ ∃ q os', w' = grow (W.drewN q) os' := by
  have hcon := fun W' => compare14 x.slot y.slot W'
  simp only [SV.cells]
  generalize Lib.compareInt x.slot y.slot = r at hcon ⊢
  go_enter Ybaf.func13, Ybaf.ntmps13
  go_wp2_with (go_at_call 14; refine (hcon _).mono ?_; rintro e w' ⟨rfl, rfl⟩)
  go_ret
  exact ⟨rfl, 0, _, by rw [alloc_eq_grow, alloc_eq_grow, grow_grow]; rfl⟩

def cfSV (x y : SV) : Int := Lib.compareInt x.slot y.slot
theorem ltSV (x y : SV) : ltOf cfSV x y = decide (x.slot < y.slot) := by
  unfold ltOf cfSV Lib.compareInt
  by_cases h1 : x.slot < y.slot
  · simp [h1]
  · by_cases h2 : y.slot < x.slot <;> simp [h1, h2]
theorem swoSV : SWO (ltOf cfSV) where
  irrefl x := by rw [ltSV]; simp
  trans x y z h1 h2 := by rw [ltSV] at *; simp at *; omega
  ntrans x y z h1 h2 := by rw [ltSV] at *; simp at *; omega

theorem svRow_get : ∀ (L : List SV) (j i : Nat) (s : SV) (v : Value), L[j]? = some s → s.cells[i]? = some v → (svRow L)[j * 3 + i]? = some v
  | [], j, i, s, v, h, _ => by simp at h
  | x :: L, 0, i, s, v, h, hi => by
    simp at h; subst h
    have : i < 3 := by have := (List.getElem?_eq_some_iff.1 hi).1; simpa [SV.cells] using this
    rw [show svRow (x :: L) = x.cells ++ svRow L from by simp [svRow], List.getElem?_append_left (by rw [x.cells_len]; omega)]
    simpa using hi
  | x :: L, j + 1, i, s, v, h, hi => by
    have ih := svRow_get L j i s v (by simpa using h) hi
    rw [show svRow (x :: L) = x.cells ++ svRow L from by simp [svRow], List.getElem?_append_right (by rw [x.cells_len]; omega), x.cells_len, show (j + 1) * 3 + i - 3 = j * 3 + i by omega]
    exact ih

theorem flat_row [Inhabited SV] (L : List SV) : (flatK SV.cells 3 L.toArray).toList = svRow L := by
  apply List.ext_getElem?
  intro t
  by_cases ht : t < L.length * 3
  · have hq : t / 3 < L.length := by omega
    have hr : t % 3 < 3 := by omega
    have e1 : (flatK SV.cells 3 L.toArray)[t]! = ((L[t / 3]).cells)[t % 3]! := by
      rw [get_flatK _ _ _ t (by simpa using ht)]
      simp [hq]
    have hc : (L[t / 3]).cells[t % 3]? = some ((L[t / 3]).cells[t % 3]!) := by
      rw [List.getElem?_eq_getElem (by rw [SV.cells_len]; omega), getElem!_pos (L[t / 3]).cells (t % 3) (by rw [SV.cells_len]; omega)]
    have h := svRow_get L (t / 3) (t % 3) _ _ (List.getElem?_eq_getElem hq) hc
    rw [show t / 3 * 3 + t % 3 = t by omega] at h
    rw [h, ← e1, Array.getElem?_toList, Array.getElem?_eq_getElem (by simpa using ht), getElem!_pos (flatK SV.cells 3 L.toArray) t (by simpa using ht)]
  · rw [List.getElem?_eq_none (by simp; omega), List.getElem?_eq_none (by rw [svRow_length]; omega)]

theorem holds_row [Inhabited SV] {w : World} {g : Nat} {cur : Array Value} {e : TypeId} {ss : List SV} (hb : w.heap[g]? = some (.cells cur e (0, 0))) (ht : cur.toList.take (ss.length * 3) = svRow ss) : HoldsK SV.cells 3 w g 0 ss.toArray := by
  intro j hj
  have hj' : j < ss.length * 3 := by simpa using hj
  refine ⟨?_, by simp [World.frozen?, hb]⟩
  have h1 : (cur.toList.take (ss.length * 3))[j]? = (flatK SV.cells 3 ss.toArray).toList[j]? := by rw [ht, flat_row]
  rw [List.getElem?_take_of_lt hj'] at h1
  simp only [World.cell?, hb, Nat.zero_add]
  simp only [Option.isSome_none, Bool.false_eq_true, if_false]
  rw [← Array.getElem?_toList, h1, Array.getElem?_toList, Array.getElem?_eq_getElem hj, getElem!_pos (flatK SV.cells 3 ss.toArray) j hj]
  rfl

theorem heap_sortedK [Inhabited SV] {w : World} {g n : Nat} {os : Array Obj} {cur : Array Value} {e : TypeId} {fr : Nat × Nat} (d : Array SV) (hb : w.heap[g]? = some (.cells cur e fr)) :
    (sortWorldK SV.cells 3 w g 0 n d os).heap[g]? = some (.cells (putCells id 0 (flatK SV.cells 3 d) cur) e fr) := by
  have hg : g < w.heap.size := (Array.getElem?_eq_some_iff.1 hb).1
  unfold sortWorldK putRowK
  rw [heap_grow_old _ _ (by simpa using hg)]
  simp [putRow, mapBlock, Sort.ahead, Array.getElem?_modify, hb, onCells]

theorem grownBy_sortedK [Inhabited SV] {w : World} {g n : Nat} {os : Array Obj} (d : Array SV) : w.grownBy (sortWorldK SV.cells 3 w g 0 n d os) (some g) := by
  unfold sortWorldK putRowK
  refine ⟨rfl, rfl, rfl, by simp, fun k hk hne => ?_⟩
  rw [heap_grow_old _ _ (by simpa using hk)]
  have : g ≠ k := fun e => hne (by rw [e])
  simp [putRow, mapBlock, Sort.ahead, Array.getElem?_modify, this]

theorem take_putCellsK (cur F : Array Value) (h : F.size ≤ cur.size) : (putCells id 0 F cur).toList.take F.size = F.toList := by
  apply List.ext_getElem?
  intro j
  by_cases hj : j < F.size
  · rw [List.getElem?_take_of_lt hj, Array.getElem?_toList]
    simp [putCells, hj, show j < cur.size by omega]
  · rw [List.getElem?_take_eq_none (by omega), List.getElem?_eq_none (by simp; omega)]

set_option maxHeartbeats 1000000 in
theorem sort_spec : SortSpec := by
  intro base v ss W hown hnil hlen
  by_cases hs : ss = []
  · subst hs
    obtain rfl := hnil rfl
    have h := AnyF.slices_SortFunc_none Ybaf.sortSV none 0 (.func (.func 13) #[] #[]) W
    change Calls Ybaf.prog 12 _ _ _ at h
    refine h.mono ?_
    rintro e w' ⟨rfl, rfl⟩
    exact ⟨rfl, [], List.Perm.refl _, List.Pairwise.nil, hown, World.grownBy.refl _ _⟩
  · rcases hown.2 with ⟨hv, h0⟩ | ⟨g, cap, cur, rfl, hbase, hb, h1, h2, h3, h4⟩
    · exact absurd (List.eq_nil_of_length_eq_zero h0) hs
    · haveI : Inhabited SV := ⟨SV.zero⟩
      have eg : ∀ args w, (callFunc 13 args).run Ybaf.prog w = .ok (.enter 13 args) w := enters_of Ybaf.func13 (by kernel_rfl) rfl
      have hH : HoldsK SV.cells 3 W g 0 ss.toArray := holds_row hb h4
      have hcon := AnyQ.slices_SortFunc Ybaf.sortSV 3 Ybaf.isAgg27 Ybaf.sizeOf27 SV.cells (fun _ => rfl) (fun x => x.cells_one) cfSV swoSV 13 #[] g 0 cap ss.toArray W eg (fun _ _ _ _ x y => closure13 x y _) hH (Array.getElem?_eq_some_iff.1 hb).1 (by simp; omega)
      change Calls Ybaf.prog 12 _ _ _ at hcon
      rw [List.size_toArray] at hcon
      refine hcon.mono ?_
      rintro e w' ⟨rfl, d', n, os, ⟨hp1, _, hp2⟩, hsd, rfl⟩
      have hsz : d'.size = ss.length := by simpa using hp1
      have e1 : (d'.extract 0 ss.length).toList = d'.toList := by rw [← hsz]; simp
      have hperm : d'.toList.Perm ss := by rw [e1] at hp2; simpa using hp2
      refine ⟨rfl, d'.toList, hperm, ?_, ?_, grownBy_sortedK _⟩
      · rw [List.pairwise_iff_getElem]
        intro i j hi hj hij
        have := hsd i j (Nat.zero_le _) hij (by simpa [hsz] using hj)
        rw [ltSV, getElem!_pos d' j (by simpa using hj), getElem!_pos d' i (by simpa using hi)] at this
        simpa using this
      · have hl : d'.toList.length = ss.length := by simpa using hsz
        rw [hl]
        refine ⟨by rw [svRow_length, hl], .inr ⟨g, cap, _, rfl, hbase, heap_sortedK _ hb, h1, h2, by simp [putCells, h3], ?_⟩⟩
        have hF : (flatK SV.cells 3 d').size = ss.length * 3 := by rw [size_flatK, hsz]
        have := take_putCellsK cur (flatK SV.cells 3 d') (by rw [hF, h3]; exact Nat.mul_le_mul_right 3 h1)
        rw [hF] at this
        rw [this]
        have := flat_row d'.toList
        simpa using this
end Go.Proofs.YbulkbivkFmt
