/-
  PLAIN: what LawS2987BCount counts. No Go in sight.
-/
import Derived.Test.YbulkbivkChosen
import Derived.Test.YbulkbivkRowIn
namespace Go.Proofs.Ybulkbivk

theorem sorted_addL (m : Msg) : ∀ L, SortedM L → SortedM (addL m L)
  | [], _ => List.pairwise_singleton _ _
  | y :: L, h => by
    unfold SortedM at h
    rw [List.pairwise_cons] at h
    have ih := sorted_addL m L h.2
    unfold SortedM at ih ⊢
    unfold addL
    split
    · rename_i hy
      rw [List.pairwise_cons]
      refine ⟨fun x hx => ?_, ih⟩
      rcases (mem_addL m x L).1 hx with hx | rfl
      · exact h.1 x hx
      · exact hy
    · rename_i hy
      split
      · exact List.pairwise_cons.2 h
      · rename_i h0
        have hmy := cmpMsg_gt y m hy h0
        refine List.pairwise_cons.2 ⟨fun x hx => ?_, List.pairwise_cons.2 h⟩
        rcases List.mem_cons.1 hx with rfl | hx
        · exact hmy
        · exact cmpMsg_trans hmy (h.1 x hx)

theorem ltMsg_irrefl (m : Msg) : ¬ LtMsg m m := by
  intro h
  have h1 := (cmpMsg_lt m m).2 h
  have h2 := (cmpMsg_eq m m).2 rfl
  omega

theorem sorted_nodup {L : List Msg} (h : SortedM L) : L.Nodup := by
  refine List.Pairwise.imp ?_ h
  intro a b hab he
  subst he
  exact ltMsg_irrefl a ((cmpMsg_lt a a).1 hab)

open Classical in
theorem nodup_length_le {α : Type} : ∀ (T U : List α), T.Nodup → (∀ x ∈ T, x ∈ U) → T.length ≤ U.length
  | [], _, _, _ => Nat.zero_le _
  | x :: T, U, hn, hs => by
    rw [List.nodup_cons] at hn
    have hx := hs x List.mem_cons_self
    have ih := nodup_length_le T (U.erase x) hn.2 (fun y hy => (List.mem_erase_of_ne (fun h => hn.1 (by rw [← h]; exact hy))).2 (hs y (List.mem_cons_of_mem _ hy)))
    rw [List.length_erase_of_mem hx] at ih
    have : 0 < U.length := List.length_pos_of_mem hx
    simp only [List.length_cons]
    omega

/-- The message that an entry stands for. -/
def msgB (e : InB) : Msg := ⟨e.k % 5, e.a % 4, e.b % 4, e.v % 3 - 1, e.s⟩

def isV (lb : Int) (m : Msg) : Prop := m.kind = 4 ∧ m.bal = lb

/-- What the law's loop keeps: the set, the distinct votes in the order in which they came, the place of the greatest. -/
structure InvB (lb : Int) (S T : List Msg) (best : Int) : Prop where
  sorted : SortedM S
  mem : ∀ m, m ∈ T ↔ m ∈ S ∧ isV lb m
  nodup : T.Nodup
  bnone : T = [] → best = -1
  bsome : T ≠ [] → ∃ (b : Nat) (mb : Msg), best = b ∧ T[b]? = some mb ∧ ∀ x ∈ T, x = mb ∨ LtMsg x mb

theorem InvB.start (lb : Int) : InvB lb [m1a lb] [] (-1) where
  sorted := List.pairwise_singleton _ _
  mem := fun m => by
    constructor
    · intro h; cases h
    · rintro ⟨h, hv, _⟩
      simp at h
      subst h
      simp [m1a] at hv
  nodup := List.nodup_nil
  bnone := fun _ => rfl
  bsome := fun h => absurd rfl h

theorem InvB.skip {lb : Int} {S T : List Msg} {best : Int} (h : InvB lb S T best) {m : Msg} (hm : ¬ isV lb m) : InvB lb (addL m S) T best where
  sorted := sorted_addL m S h.sorted
  mem := fun x => by
    rw [h.mem, mem_addL]
    constructor
    · rintro ⟨h1, h2⟩; exact ⟨.inl h1, h2⟩
    · rintro ⟨h1 | rfl, h2⟩
      · exact ⟨h1, h2⟩
      · exact absurd h2 hm
  nodup := h.nodup
  bnone := h.bnone
  bsome := h.bsome

theorem InvB.dup {lb : Int} {S T : List Msg} {best : Int} (h : InvB lb S T best) {m : Msg} (hm : m ∈ T) : InvB lb (addL m S) T best where
  sorted := sorted_addL m S h.sorted
  mem := fun x => by
    rw [h.mem, mem_addL]
    constructor
    · rintro ⟨h1, h2⟩; exact ⟨.inl h1, h2⟩
    · rintro ⟨h1 | rfl, h2⟩
      · exact ⟨h1, h2⟩
      · exact (h.mem _).1 hm
  nodup := h.nodup
  bnone := h.bnone
  bsome := h.bsome

theorem InvB.newTop {lb : Int} {S T : List Msg} {best : Int} (h : InvB lb S T best) {m : Msg} (hv : isV lb m) (hm : m ∉ T) (htop : ∀ x ∈ T, LtMsg x m) : InvB lb (addL m S) (T ++ [m]) T.length where
  sorted := sorted_addL m S h.sorted
  mem := fun x => by
    rw [List.mem_append, List.mem_singleton, h.mem, mem_addL]
    constructor
    · rintro (⟨h1, h2⟩ | rfl)
      · exact ⟨.inl h1, h2⟩
      · exact ⟨.inr rfl, hv⟩
    · rintro ⟨h1 | rfl, h2⟩
      · exact .inl ⟨h1, h2⟩
      · exact .inr rfl
  nodup := by
    rw [List.nodup_append]
    refine ⟨h.nodup, by simp, fun a ha b hb => ?_⟩
    simp at hb; subst hb
    intro he; subst he; exact hm ha
  bnone := fun h => by simp at h
  bsome := fun _ => ⟨T.length, m, rfl, by simp, fun x hx => by
    rcases List.mem_append.1 hx with hx | hx
    · exact .inr (htop x hx)
    · simp at hx; exact .inl hx⟩

theorem InvB.newLow {lb : Int} {S T : List Msg} {best : Int} (h : InvB lb S T best) {m mb : Msg} {b : Nat} (hv : isV lb m) (hm : m ∉ T) (hb : best = b) (hmb : T[b]? = some mb) (hmax : ∀ x ∈ T, x = mb ∨ LtMsg x mb) (hlow : ¬ LtMsg mb m) :
    InvB lb (addL m S) (T ++ [m]) best where
  sorted := sorted_addL m S h.sorted
  mem := fun x => by
    rw [List.mem_append, List.mem_singleton, h.mem, mem_addL]
    constructor
    · rintro (⟨h1, h2⟩ | rfl)
      · exact ⟨.inl h1, h2⟩
      · exact ⟨.inr rfl, hv⟩
    · rintro ⟨h1 | rfl, h2⟩
      · exact .inl ⟨h1, h2⟩
      · exact .inr rfl
  nodup := by
    rw [List.nodup_append]
    refine ⟨h.nodup, by simp, fun a ha b hb => ?_⟩
    simp at hb; subst hb
    intro he; subst he; exact hm ha
  bnone := fun h => by simp at h
  bsome := fun _ => by
    have hbl := (List.getElem?_eq_some_iff.1 hmb).1
    refine ⟨b, mb, hb, by rw [List.getElem?_append_left hbl]; exact hmb, fun x hx => ?_⟩
    rcases List.mem_append.1 hx with hx | hx
    · exact hmax x hx
    · simp at hx; subst hx
      right
      have hne : mb ≠ x := fun he => hm (he ▸ List.mem_of_getElem? hmb)
      have h1 : ¬ cmpMsg mb x < 0 := fun h => hlow ((cmpMsg_lt _ _).1 h)
      have h2 : ¬ cmpMsg mb x = 0 := fun h => hne ((cmpMsg_eq _ _).1 h)
      exact (cmpMsg_lt _ _).1 (cmpMsg_gt mb x h1 h2)

/-- THE PLAIN LAW: as many votes as the stretch is long; the last of the stretch is the greatest. -/
theorem InvB.count {lb : Int} {S T : List Msg} {best : Int} (h : InvB lb S T best) {lo hi : Nat} (hs : Stretch S (atKB 4 lb) lo hi) :
    T.length = hi - lo ∧ (T = [] → lastV S lo hi = ⟨#[]⟩) ∧ (∀ (b : Nat) (mb : Msg), T[b]? = some mb → (∀ x ∈ T, x = mb ∨ LtMsg x mb) → lastV S lo hi = mb.val) := by
  obtain ⟨h1, h2, s1, s2, s3⟩ := hs
  have hU : ∀ x, x ∈ (S.drop lo).take (hi - lo) ↔ ∃ j, lo ≤ j ∧ j < hi ∧ S[j]? = some x := by
    intro x
    rw [List.mem_iff_getElem?]
    constructor
    · rintro ⟨i, hi'⟩
      rw [List.getElem?_take] at hi'
      split at hi'
      · rw [List.getElem?_drop] at hi'
        exact ⟨lo + i, by omega, by omega, hi'⟩
      · cases hi'
    · rintro ⟨j, j1, j2, hj⟩
      refine ⟨j - lo, ?_⟩
      rw [List.getElem?_take, if_pos (by omega), List.getElem?_drop, show lo + (j - lo) = j by omega]
      exact hj
  have hmem : ∀ x, x ∈ T ↔ x ∈ (S.drop lo).take (hi - lo) := by
    intro x
    rw [h.mem, hU]
    constructor
    · rintro ⟨hx, hv⟩
      obtain ⟨j, hj⟩ := List.mem_iff_getElem?.1 hx
      have hz : atKB 4 lb x = 0 := (atKB_zero 4 lb x).2 hv
      refine ⟨j, ?_, ?_, hj⟩
      · by_cases hjl : j < lo
        · have := s1 j x hjl hj; omega
        · omega
      · by_cases hjh : hi ≤ j
        · have := s3 j x hjh hj; omega
        · omega
    · rintro ⟨j, j1, j2, hj⟩
      exact ⟨List.mem_of_getElem? hj, (atKB_zero 4 lb x).1 (s2 j x j1 j2 hj)⟩
  have hUn : ((S.drop lo).take (hi - lo)).Nodup := ((sorted_nodup h.sorted).sublist ((List.take_sublist _ _).trans (List.drop_sublist _ _)))
  have hUl : ((S.drop lo).take (hi - lo)).length = hi - lo := by rw [List.length_take, List.length_drop]; omega
  have hlen : T.length = hi - lo := by
    have a := nodup_length_le T _ h.nodup (fun x hx => (hmem x).1 hx)
    have b := nodup_length_le _ T hUn (fun x hx => (hmem x).2 hx)
    omega
  refine ⟨hlen, fun hT => ?_, fun b mb hb hmax => ?_⟩
  · subst hT
    simp at hlen
    unfold lastV
    rw [if_neg (by omega)]
  · have hbl := (List.getElem?_eq_some_iff.1 hb).1
    have hlt : lo < hi := by omega
    obtain ⟨z, hz⟩ : ∃ z, S[hi - 1]? = some z := ⟨_, List.getElem?_eq_getElem (by omega)⟩
    have hzT : z ∈ T := (hmem z).2 ((hU z).2 ⟨hi - 1, by omega, by omega, hz⟩)
    obtain ⟨j, j1, j2, hj⟩ := (hU mb).1 ((hmem mb).1 (List.mem_of_getElem? hb))
    have hzm : z = mb := by
      rcases hmax z hzT with he | hl
      · exact he
      · by_cases hjh : j = hi - 1
        · rw [hjh, hz] at hj; cases hj; rfl
        · obtain ⟨p1, rfl⟩ := List.getElem?_eq_some_iff.1 hj
          obtain ⟨p2, rfl⟩ := List.getElem?_eq_some_iff.1 hz
          have := (cmpMsg_lt _ _).1 (List.pairwise_iff_getElem.1 h.sorted j (hi - 1) p1 p2 (by omega))
          exact absurd (LtMsg_trans this hl) (ltMsg_irrefl _)
    unfold lastV
    rw [if_pos hlt, hz, hzm]
    rfl

/-- '<' on strings is 'compare below zero'. -/
theorem bytesLess_cb : ∀ a b : List UInt8, Op.bytesLess a b = decide (Lib.compareBytes a b < 0)
  | [], [] => rfl
  | [], _ :: _ => rfl
  | _ :: _, [] => rfl
  | x :: a, y :: b => by
    have ih := bytesLess_cb a b
    unfold Op.bytesLess Lib.compareBytes
    by_cases h1 : x < y
    · simp [h1]
    · by_cases h2 : y < x
      · have hne : ¬ x = y := fun h => by subst h; exact UInt8.lt_irrefl x h2
        simp [h1, h2, hne]
      · have he : x = y := UInt8.le_antisymm (UInt8.not_lt.1 h2) (UInt8.not_lt.1 h1)
        subst he
        simp [h1, ih]
end Go.Proofs.Ybulkbivk
