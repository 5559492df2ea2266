/-
  WHAT THE LAW's LAST LOOPS NEED: the map looked up, votes compared, the result's row.
-/
import Derived.Test.YbulkbivkFmtSt
import Derived.Laws.StructEq
namespace Go.Proofs.YbulkbivkFmt
open Go.RowKit Go.Maps
set_option linter.unusedVariables false

theorem StC.kept {w W1 W2 : World} {f : Int} {F : Nat → Option SV} {n ab : Nat} (h : StC w W1 f F n) (hg : W1.grownBy W2 (some ab)) (hab : w.heap.size + 2 < ab) : StC w W2 f F n where
  below := h.below.grown hg h.below.size (fun k hk => by cases hk; omega)
  big := Nat.lt_of_lt_of_le h.big hg.size
  hv i hi := by
    have hb := hg.block w.heap.size (by have := h.big; omega) (by simp; omega)
    exact ⟨(World.cell?_of_block hb).trans (h.hv i hi).1, (World.frozen?_of_block hb).trans (h.hv i hi).2⟩
  en i hi := (h.en i hi).same (hg.block (w.heap.size + 1) (by have := h.big; omega) (by simp; omega))
  mp := by obtain ⟨D, h1, h2⟩ := h.mp; exact ⟨D, h1.kept hg (by simp; omega), h2⟩

theorem StC.look {w W : World} {f : Int} {F : Nat → Option SV} {n j : Nat} {s : SV} (h : StC w W f F n) (hf0 : 0 ≤ f) (hf1 : f ≤ 15) (hj : j < 256) (hF : F j = some s) :
    (Instr.lookup 29 (.map (some (w.heap.size + 2))) (.int .i64 (f + j)) true).run Ybaf.prog W = .ok (.tuple #[.agg s.cells.toArray, .bool true]) W := by
  obtain ⟨D, h1, h2⟩ := h.mp
  have hkey : keyOf Ybaf.prog 3 (.int .i64 (f + j)) = some (.int .i64 (f + j)) := keyOf_int_mk Ybaf.underlying3 (WalkArith.wf_i64 (by omega))
  obtain ⟨v, ps, hrun, hv⟩ := h1.look_ok law3 Ybaf.underlying29 (zero27 _) (svElem_mk SV.zero) hkey
  obtain ⟨t, rfl, ht⟩ := svElem_inv hv
  rw [h2.at_ j s hj hF] at ht
  have := svD_inj (congrArg Prod.fst ht)
  subst this
  rw [hrun, h2.has j hj, hF]
  rfl

theorem StC.len {w W : World} {f : Int} {F : Nat → Option SV} {n : Nat} (h : StC w W f F n) (ty : TypeId) : (Builtin.len_ #[29] ty #[.map (some (w.heap.size + 2))]).run Ybaf.prog W = .ok (.int .i64 (cntF F 256 : Nat)) W := by
  obtain ⟨D, h1, h2⟩ := h.mp
  rw [h1.len Ybaf.underlying29 ty, h2.size]

theorem neq_sv (s : SV) (w : World) : (binOp .neq 27 (.agg s.cells.toArray) (.agg s.cells.toArray)).run Ybaf.prog w = .ok (.bool false) w := by
  have u3 := Ybaf.underlying3
  have u9 := Ybaf.underlying9
  have hS : Ybaf.prog.underlying 27 = some (.struct (Ybaf.prog.fieldsOf 27)) := by kernel_rfl
  have hp : Ybaf.prog.stoodInHeld 27 = false := by kernel_rfl
  simp only [SV.cells]
  rw [run_neq_struct, show (10000 : Nat) = 9999 + 1 from rfl, run_equalIn_agg w 9999 27 _ _ hS hp]
  simp only [Program.fieldsOf, Ybaf.underlying27]
  go_simp

theorem resL_more (F : Nat → Option SV) (f q : Int) (n : Nat) : ∀ m, ∃ t, resL F f q (n + m) = resL F f q n ++ t
  | 0 => ⟨[], by simp⟩
  | m + 1 => by
    obtain ⟨t, ht⟩ := resL_more F f q n m
    rw [show n + (m + 1) = (n + m) + 1 by omega, resL_succ, ht]
    exact ⟨t ++ _, by rw [List.append_assoc]⟩

theorem resL_hit {F : Nat → Option SV} {f q : Int} {i : Nat} {s : SV} (hi : i < 256) (hq : q ≤ f + (i : Int)) (hF : F i = some s) : (resL F f q 256)[(resL F f q i).length]? = some s ∧ (resL F f q (i + 1)).length = (resL F f q i).length + 1 := by
  have e : resL F f q (i + 1) = resL F f q i ++ [s] := by rw [resL_succ, if_pos hq, hF]; rfl
  obtain ⟨t, ht⟩ := resL_more F f q (i + 1) (256 - (i + 1))
  rw [show i + 1 + (256 - (i + 1)) = 256 by omega, e] at ht
  refine ⟨?_, by rw [e]; simp⟩
  rw [ht, List.append_assoc, List.getElem?_append_right (Nat.le_refl _)]
  simp
theorem resL_miss {F : Nat → Option SV} {f q : Int} {i : Nat} (h : ¬ (q ≤ f + (i : Int)) ∨ F i = none) : (resL F f q (i + 1)).length = (resL F f q i).length := by
  rw [resL_succ]
  rcases h with h | h
  · rw [if_neg h]; simp
  · rw [h]; simp
theorem resL_le (F : Nat → Option SV) (f q : Int) : ∀ n, (resL F f q n).length ≤ n
  | 0 => by simp [resL]
  | n + 1 => by
    have := resL_le F f q n
    rw [resL_succ, List.length_append]
    cases (if q ≤ f + (n : Int) then F n else none) <;> simp <;> omega

theorem svRow_at : ∀ (L : List SV) (j i : Nat) (s : SV) (v : Value), L[j]? = some s → s.cells[i]? = some v → (svRow L)[j * 3 + i]? = some v
  | [], j, i, s, v, h, _ => by simp at h
  | x :: L, 0, i, s, v, h, hi => by
    simp at h; subst h
    have : i < 3 := by have := (List.getElem?_eq_some_iff.1 hi).1; simpa [SV.cells] using this
    rw [show svRow (x :: L) = x.cells ++ svRow L from by simp [svRow], List.getElem?_append_left (by rw [x.cells_len]; omega)]
    simpa using hi
  | x :: L, j + 1, i, s, v, h, hi => by
    have ih := svRow_at L j i s v (by simpa using h) hi
    rw [show svRow (x :: L) = x.cells ++ svRow L from by simp [svRow], List.getElem?_append_right (by rw [x.cells_len]; omega), x.cells_len, show (j + 1) * 3 + i - 3 = j * 3 + i by omega]
    exact ih

/-- A row of votes, cell by cell. -/
theorem own_sv {w : World} {base : Nat} {v : Value} {L : List SV} (h : w.ownsRow base 27 3 v L.length (svRow L)) :
    ∃ a cap g, v = .slice a L.length cap ∧ L.length ≤ cap ∧ (0 < L.length → a = some ⟨g, 0, none⟩) ∧ ∀ (j : Nat) (s : SV), L[j]? = some s →
      w.cell? ⟨g, j * 3, none⟩ = some (.int .i64 s.slot) ∧ w.cell? ⟨g, j * 3 + 1, none⟩ = some (.int .i64 s.bal) ∧ w.cell? ⟨g, j * 3 + 2, none⟩ = some (.string s.val) := by
  rcases h.2 with ⟨rfl, h0⟩ | ⟨g, cap, cur, rfl, hb, hg, h1, h2, h3, h4⟩
  · have : L = [] := List.eq_nil_of_length_eq_zero h0
    subst this
    exact ⟨none, 0, 0, rfl, Nat.le_refl _, fun h => absurd h (Nat.lt_irrefl _), fun j s hj => by simp at hj⟩
  · refine ⟨some ⟨g, 0, none⟩, cap, g, rfl, h1, fun _ => rfl, fun j s hj => ?_⟩
    have key : ∀ i u, s.cells[i]? = some u → w.cell? ⟨g, j * 3 + i, none⟩ = some u := fun i u hu => by
      have hget := svRow_at L j i s u hj hu
      rw [← h4, List.getElem?_take] at hget
      split at hget
      · have : cur[j * 3 + i]? = some u := by simpa using hget
        simp [World.cell?, hg, this]
      · cases hget
    exact ⟨key 0 _ rfl, key 1 _ rfl, key 2 _ rfl⟩
end Go.Proofs.YbulkbivkFmt
