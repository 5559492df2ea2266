/-
  PLAIN: what Votes collects from the map, in whatever order; what it is when sorted.
-/
import Derived.Test.YbulkbivkFmtSV
namespace Go.Proofs.YbulkbivkFmt
open Go.Maps
set_option linter.unusedVariables false

/-- The kept votes from slot q on, in increasing order of slot. -/
def resL (F : Nat → Option SV) (f q : Int) (n : Nat) : List SV := (List.range n).filterMap fun i : Nat => if q ≤ f + (i : Int) then F i else none

theorem mem_resL {F : Nat → Option SV} {f q : Int} {n : Nat} {s : SV} : s ∈ resL F f q n ↔ ∃ i : Nat, i < n ∧ q ≤ f + (i : Int) ∧ F i = some s := by
  simp only [resL, List.mem_filterMap, List.mem_range]
  constructor
  · rintro ⟨i, hi, h⟩
    split at h
    · exact ⟨i, hi, by assumption, h⟩
    · cases h
  · rintro ⟨i, hi, hq, h⟩
    exact ⟨i, hi, by rw [if_pos hq]; exact h⟩

theorem resL_succ (F : Nat → Option SV) (f q : Int) (n : Nat) : resL F f q (n + 1) = resL F f q n ++ (if q ≤ f + (n : Int) then F n else none).toList := by
  unfold resL
  rw [List.range_succ, List.filterMap_append]
  congr 1

theorem resL_sorted {F : Nat → Option SV} {f : Int} (hs : ∀ (i : Nat) (s : SV), F i = some s → s.slot = f + i) (q : Int) : ∀ n, (resL F f q n).Pairwise fun x y => x.slot < y.slot
  | 0 => List.Pairwise.nil
  | n + 1 => by
    rw [resL_succ, List.pairwise_append]
    refine ⟨resL_sorted hs q n, ?_, ?_⟩
    · cases (if q ≤ f + (n : Int) then F n else none) <;> simp
    · intro x hx y hy
      obtain ⟨i, hi, _, hF⟩ := mem_resL.1 hx
      have hy' : F n = some y := by
        split at hy
        · cases hF' : F n <;> rw [hF'] at hy <;> simp at hy
          rw [hy]
        · simp at hy
      rw [hs i x hF, hs n y hy']
      omega

theorem sorted_unique : ∀ (A B : List SV), A.Pairwise (fun x y => x.slot < y.slot) → B.Pairwise (fun x y => x.slot < y.slot) → (∀ s, s ∈ A ↔ s ∈ B) → A = B
  | [], [], _, _, _ => rfl
  | [], y :: B, _, _, h => by have := (h y).2 (List.mem_cons_self ..); cases this
  | x :: A, [], _, _, h => by have := (h x).1 (List.mem_cons_self ..); cases this
  | x :: A, y :: B, hA, hB, h => by
    obtain ⟨a1, a2⟩ := List.pairwise_cons.1 hA
    obtain ⟨b1, b2⟩ := List.pairwise_cons.1 hB
    have hxy : x = y := by
      rcases List.mem_cons.1 ((h x).1 (List.mem_cons_self ..)) with e | hx
      · exact e
      · rcases List.mem_cons.1 ((h y).2 (List.mem_cons_self ..)) with e | hy
        · exact e.symm
        · have h1 := b1 x hx
          have h2 := a1 y hy
          omega
    subst hxy
    rw [sorted_unique A B a2 b2 fun s => ?_]
    constructor
    · intro hs
      rcases List.mem_cons.1 ((h s).1 (List.mem_cons_of_mem _ hs)) with e | h'
      · subst e; have := a1 s hs; omega
      · exact h'
    · intro hs
      rcases List.mem_cons.1 ((h s).2 (List.mem_cons_of_mem _ hs)) with e | h'
      · subst e; have := b1 s hs; omega
      · exact h'

/-- What has been collected, 'left' being still to come. -/
structure Col (F : Nat → Option SV) (f q : Int) (left : Lit → Bool) (ss : List SV) : Prop where
  mem : ∀ s, s ∈ ss ↔ ∃ i : Nat, i < 256 ∧ F i = some s ∧ q ≤ s.slot ∧ left (.int .i64 (f + (i : Int))) = false
  apart : ss.Pairwise fun x y => x.slot ≠ y.slot

theorem Col.start {D : DataW Unit} {f : Int} {F : Nat → Option SV} (h : MapIs D f F) (q : Int) : Col F f q (Maps.has D) [] where
  mem s := by
    constructor
    · intro hs; cases hs
    · rintro ⟨i, hi, hF, _, hl⟩
      rw [h.has i hi, hF] at hl
      cases hl
  apart := List.Pairwise.nil

theorem Col.step {F : Nat → Option SV} {f q : Int} {left : Lit → Bool} {ss : List SV} (h : Col F f q left ss) (hs : ∀ (i : Nat) (s : SV), F i = some s → s.slot = f + i) {i : Nat} {c : SV} (hi : i < 256) (hF : F i = some c) (hl : left (.int .i64 (f + (i : Int))) = true) :
    Col F f q (fun z => left z && !z.sameKey (.int .i64 (f + (i : Int)))) (if q ≤ c.slot then ss ++ [c] else ss) := by
  have hkey : ∀ j : Nat, (left (.int .i64 (f + (j : Int))) && !(Lit.int .i64 (f + (j : Int))).sameKey (.int .i64 (f + (i : Int)))) = false ↔ j = i ∨ left (.int .i64 (f + (j : Int))) = false := by
    intro j
    by_cases e : j = i
    · subst e
      rw [WideAt.sameKey_self (int_key _)]
      simp
    · rw [sameKey_ne (key_ne e)]
      simp [e]
  have hnot : c ∉ ss := fun hc => by
    obtain ⟨j, hj, hFj, _, hlj⟩ := (h.mem c).1 hc
    have e1 := hs j c hFj
    have e2 := hs i c hF
    have : j = i := by omega
    subst this
    rw [hl] at hlj; cases hlj
  have hmem : ∀ s, (∃ j : Nat, j < 256 ∧ F j = some s ∧ q ≤ s.slot ∧ (left (.int .i64 (f + (j : Int))) && !(Lit.int .i64 (f + (j : Int))).sameKey (.int .i64 (f + (i : Int)))) = false) ↔ s ∈ ss ∨ (s = c ∧ q ≤ c.slot) := by
    intro s
    rw [h.mem s]
    constructor
    · rintro ⟨j, hj, hFj, hq, hlj⟩
      rcases (hkey j).1 hlj with rfl | h1
      · rw [hF] at hFj; cases hFj; exact .inr ⟨rfl, hq⟩
      · exact .inl ⟨j, hj, hFj, hq, h1⟩
    · rintro (⟨j, hj, hFj, hq, hlj⟩ | ⟨rfl, hq⟩)
      · exact ⟨j, hj, hFj, hq, (hkey j).2 (.inr hlj)⟩
      · exact ⟨i, hi, hF, hq, (hkey i).2 (.inl rfl)⟩
  by_cases hq : q ≤ c.slot
  · rw [if_pos hq]
    refine ⟨fun s => ?_, ?_⟩
    · rw [hmem s, List.mem_append, List.mem_singleton]
      constructor
      · rintro (h1 | h1)
        · exact .inl h1
        · exact .inr ⟨h1, hq⟩
      · rintro (h1 | ⟨h1, _⟩)
        · exact .inl h1
        · exact .inr h1
    · rw [List.pairwise_append]
      refine ⟨h.apart, List.pairwise_singleton _ _, fun x hx y hy => ?_⟩
      rw [List.mem_singleton] at hy
      subst hy
      intro e
      obtain ⟨j, hj, hFj, _, hlj⟩ := (h.mem x).1 hx
      have e1 := hs j x hFj
      have e2 := hs i y hF
      have : j = i := by omega
      subst this
      rw [hl] at hlj; cases hlj
  · rw [if_neg hq]
    refine ⟨fun s => ?_, h.apart⟩
    rw [hmem s]
    constructor
    · exact .inl
    · rintro (h1 | ⟨_, h1⟩)
      · exact h1
      · exact absurd h1 hq

/-- Sorted, whatever the order was: the one list. -/
theorem Col.sorted {F : Nat → Option SV} {f q : Int} {left : Lit → Bool} {ss d : List SV} (h : Col F f q left ss) (hs : ∀ (i : Nat) (s : SV), F i = some s → s.slot = f + i) (hl : ∀ kl, left kl = false) (hp : d.Perm ss) (hd : d.Pairwise fun x y => ¬ y.slot < x.slot) : d = resL F f q 256 := by
  refine sorted_unique _ _ ?_ (resL_sorted hs q 256) fun s => ?_
  · have h2 : d.Pairwise fun x y => x.slot ≠ y.slot := (hp.pairwise_iff (fun {_ _} e => Ne.symm e)).2 h.apart
    refine (hd.and h2).imp fun {a b} hab => ?_
    omega
  · rw [hp.mem_iff, h.mem s, mem_resL]
    constructor
    · rintro ⟨i, hi, hF, hq, _⟩
      exact ⟨i, hi, by rw [← hs i s hF]; exact hq, hF⟩
    · rintro ⟨i, hi, hq, hF⟩
      exact ⟨i, hi, hF, by rw [hs i s hF]; exact hq, hl _⟩
end Go.Proofs.YbulkbivkFmt
