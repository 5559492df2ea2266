/-
  PLAIN: the order on messages; 'add' as a plain function; no Go in sight.
-/
import Derived.Test.YbulkbivkMsg
namespace Go.Proofs.Ybulkbivk

/-- 'add': the message goes to its place, unless an equal one stands there. -/
def addL (m : Msg) : List Msg → List Msg
  | [] => [m]
  | x :: L => if cmpMsg x m < 0 then x :: addL m L else if cmpMsg x m = 0 then x :: L else m :: x :: L

theorem addL_found (m : Msg) : ∀ (L : List Msg) (r : Nat), (∀ (j : Nat) (x : Msg), j < r → L[j]? = some x → cmpMsg x m < 0) → (∃ x, L[r]? = some x ∧ cmpMsg x m = 0) → addL m L = L
  | [], r, _, h => by obtain ⟨x, hx, _⟩ := h; simp at hx
  | y :: L, 0, _, h => by
    obtain ⟨x, hx, h0⟩ := h
    simp at hx; subst hx
    simp [addL, h0]
  | y :: L, r + 1, h1, h2 => by
    have hy := h1 0 y (by omega) rfl
    simp only [addL, hy, if_true]
    rw [addL_found m L r (fun j x hj hx => h1 (j + 1) x (by omega) (by simpa using hx)) (by simpa using h2)]

theorem addL_place (m : Msg) : ∀ (L : List Msg) (r : Nat), r ≤ L.length → (∀ (j : Nat) (x : Msg), j < r → L[j]? = some x → cmpMsg x m < 0) → (∀ (j : Nat) (x : Msg), r ≤ j → L[j]? = some x → 0 ≤ cmpMsg x m) →
    (¬ ∃ x, L[r]? = some x ∧ cmpMsg x m = 0) → addL m L = L.take r ++ m :: L.drop r
  | [], r, hr, _, _, _ => by simp at hr; subst hr; rfl
  | y :: L, 0, _, _, h2, h3 => by
    have hy := h2 0 y (by omega) rfl
    have hz : ¬ cmpMsg y m = 0 := fun h => h3 ⟨y, rfl, h⟩
    have hlt : ¬ cmpMsg y m < 0 := by omega
    simp [addL, hlt, hz]
  | y :: L, r + 1, hr, h1, h2, h3 => by
    have hy := h1 0 y (by omega) rfl
    simp only [addL, hy, if_true, List.take_succ_cons, List.drop_succ_cons, List.cons_append]
    rw [addL_place m L r (by simpa using hr) (fun j x hj hx => h1 (j + 1) x (by omega) (by simpa using hx)) (fun j x hj hx => h2 (j + 1) x (by omega) (by simpa using hx)) (by simpa using h3)]

theorem addL_length_le (m : Msg) : ∀ L, L.length ≤ (addL m L).length ∧ (addL m L).length ≤ L.length + 1
  | [] => by simp [addL]
  | y :: L => by
    have := addL_length_le m L
    unfold addL
    split
    · simp; omega
    · split <;> simp

/-! ### compareMessages is a strict order -/
theorem bytes_ext {a b : ByteArray} (h : a.data.toList = b.data.toList) : a = b := by
  obtain ⟨⟨x⟩⟩ := a
  obtain ⟨⟨y⟩⟩ := b
  simp at h
  subst h; rfl

theorem ci_lt (x y : Int) : Lib.compareInt x y < 0 ↔ x < y := by unfold Lib.compareInt; split <;> (try split) <;> omega
theorem ci_eq (x y : Int) : Lib.compareInt x y = 0 ↔ x = y := by unfold Lib.compareInt; split <;> (try split) <;> omega
theorem ci_gt (x y : Int) : 0 < Lib.compareInt x y ↔ y < x := by unfold Lib.compareInt; split <;> (try split) <;> omega

theorem cb_eq : ∀ a b : List UInt8, Lib.compareBytes a b = 0 ↔ a = b
  | [], [] => by simp [Lib.compareBytes]
  | [], _ :: _ => by simp [Lib.compareBytes]
  | _ :: _, [] => by simp [Lib.compareBytes]
  | x :: a, y :: b => by
    have ih := cb_eq a b
    unfold Lib.compareBytes
    by_cases h1 : x < y
    · have : x ≠ y := fun h => by subst h; exact UInt8.lt_irrefl x h1
      simp [h1, this]
    · by_cases h2 : y < x
      · have : x ≠ y := fun h => by subst h; exact UInt8.lt_irrefl x h2
        simp [h1, h2, this]
      · have hxy : x = y := UInt8.le_antisymm (UInt8.not_lt.1 h2) (UInt8.not_lt.1 h1)
        subst hxy
        simp [h1, ih]

theorem cb_trans : ∀ a b c : List UInt8, Lib.compareBytes a b < 0 → Lib.compareBytes b c < 0 → Lib.compareBytes a c < 0
  | [], [], _, h, _ => by simp [Lib.compareBytes] at h
  | [], _ :: _, [], _, h => by simp [Lib.compareBytes] at h
  | [], _ :: _, _ :: _, _, _ => by simp [Lib.compareBytes]
  | _ :: _, [], _, h, _ => by simp [Lib.compareBytes] at h
  | _ :: _, _ :: _, [], _, h => by simp [Lib.compareBytes] at h
  | x :: a, y :: b, z :: c, h1, h2 => by
    have ih := cb_trans a b c
    unfold Lib.compareBytes at h1 h2 ⊢
    by_cases p1 : x < y
    · by_cases p2 : y < z
      · simp [UInt8.lt_trans p1 p2]
      · by_cases p3 : z < y
        · simp [p2, p3] at h2
        · have : y = z := UInt8.le_antisymm (UInt8.not_lt.1 p3) (UInt8.not_lt.1 p2)
          subst this
          simp [p1]
    · by_cases q1 : y < x
      · simp [p1, q1] at h1
      · have : x = y := UInt8.le_antisymm (UInt8.not_lt.1 q1) (UInt8.not_lt.1 p1)
        subst this
        simp [p1] at h1
        by_cases p2 : x < z
        · simp [p2]
        · by_cases p3 : z < x
          · simp [p2, p3] at h2
          · simp [p2, p3] at h2 ⊢
            exact ih h1 h2

theorem cb_gt : ∀ a b : List UInt8, ¬ Lib.compareBytes a b < 0 → ¬ Lib.compareBytes a b = 0 → Lib.compareBytes b a < 0
  | [], [], _, h => by simp [Lib.compareBytes] at h
  | [], _ :: _, h, _ => by simp [Lib.compareBytes] at h
  | _ :: _, [], _, _ => by simp [Lib.compareBytes]
  | x :: a, y :: b, h1, h2 => by
    have ih := cb_gt a b
    unfold Lib.compareBytes at h1 h2 ⊢
    by_cases p1 : x < y
    · simp [p1] at h1
    · by_cases p2 : y < x
      · simp [p2]
      · simp [p1, p2] at h1 h2 ⊢
        exact ih (by omega) h2

/-- compareMessages below zero, said without compare. -/
def LtMsg (m n : Msg) : Prop :=
  m.kind < n.kind ∨ m.kind = n.kind ∧ (m.bal < n.bal ∨ m.bal = n.bal ∧ (m.acc < n.acc ∨ m.acc = n.acc ∧ (m.vb < n.vb ∨ m.vb = n.vb ∧ cmpStr m.val n.val < 0)))

theorem cmpMsg_lt (m n : Msg) : cmpMsg m n < 0 ↔ LtMsg m n := by
  unfold cmpMsg LtMsg orList orList orList orList orList orList
  rw [← ci_lt m.kind n.kind, ← ci_eq m.kind n.kind, ← ci_lt m.bal n.bal, ← ci_eq m.bal n.bal, ← ci_lt m.acc n.acc, ← ci_eq m.acc n.acc, ← ci_lt m.vb n.vb, ← ci_eq m.vb n.vb]
  generalize Lib.compareInt m.kind n.kind = a
  generalize Lib.compareInt m.bal n.bal = b
  generalize Lib.compareInt m.acc n.acc = c
  generalize Lib.compareInt m.vb n.vb = d
  generalize cmpStr m.val n.val = e
  split
  · split
    · split
      · split
        · split <;> omega
        · omega
      · omega
    · omega
  · omega

theorem cmpMsg_eq (m n : Msg) : cmpMsg m n = 0 ↔ m = n := by
  obtain ⟨k, a, b, v, s⟩ := m
  obtain ⟨k', a', b', v', s'⟩ := n
  have hs : s = s' ↔ cmpStr s s' = 0 := by
    unfold cmpStr
    rw [cb_eq]
    constructor
    · rintro rfl; rfl
    · intro h
      obtain ⟨⟨x⟩⟩ := s
      obtain ⟨⟨y⟩⟩ := s'
      simp at h
      subst h; rfl
  simp only [Msg.mk.injEq]
  rw [hs]
  unfold cmpMsg orList orList orList orList orList orList
  simp only
  rw [← ci_eq k k', ← ci_eq b b', ← ci_eq a a', ← ci_eq v v']
  generalize Lib.compareInt k k' = p
  generalize Lib.compareInt b b' = q
  generalize Lib.compareInt a a' = r
  generalize Lib.compareInt v v' = t
  generalize cmpStr s s' = u
  split
  · split
    · split
      · split
        · split <;> omega
        · omega
      · omega
    · omega
  · omega

theorem LtMsg_trans {a b c : Msg} (h1 : LtMsg a b) (h2 : LtMsg b c) : LtMsg a c := by
  unfold LtMsg at *
  have ht := cb_trans a.val.data.toList b.val.data.toList c.val.data.toList
  unfold cmpStr at *
  omega

theorem cmpMsg_trans {a b c : Msg} (h1 : cmpMsg a b < 0) (h2 : cmpMsg b c < 0) : cmpMsg a c < 0 :=
  (cmpMsg_lt a c).2 (LtMsg_trans ((cmpMsg_lt a b).1 h1) ((cmpMsg_lt b c).1 h2))

/-- The set's order: each message is less than all behind it. -/
def SortedM (L : List Msg) : Prop := L.Pairwise fun x y => cmpMsg x y < 0

theorem mem_addL (m x : Msg) : ∀ L, x ∈ addL m L ↔ x ∈ L ∨ x = m
  | [] => by simp [addL]
  | y :: L => by
    have ih := mem_addL m x L
    unfold addL
    split
    · simp only [List.mem_cons, ih]
      constructor
      · rintro (h | h | h) <;> simp [h]
      · rintro ((h | h) | h) <;> simp [h]
    · split
      · rename_i h0
        have : y = m := (cmpMsg_eq y m).1 h0
        subst this
        simp only [List.mem_cons]
        constructor
        · exact fun h => .inl h
        · rintro (h | h)
          · exact h
          · exact .inl h
      · simp only [List.mem_cons]
        constructor
        · rintro (h | h | h) <;> simp [h]
        · rintro ((h | h) | h) <;> simp [h]

theorem cmpMsg_gt (m n : Msg) (h : ¬ cmpMsg m n < 0) (h0 : ¬ cmpMsg m n = 0) : cmpMsg n m < 0 := by
  rw [cmpMsg_lt] at h ⊢
  rw [cmpMsg_eq] at h0
  have hs : cmpStr m.val n.val = 0 → m.val = n.val := fun h => by
    unfold cmpStr at h
    rw [cb_eq] at h
    exact bytes_ext h
  have hst : ¬ cmpStr m.val n.val < 0 → ¬ cmpStr m.val n.val = 0 → cmpStr n.val m.val < 0 := by
    unfold cmpStr
    exact cb_gt _ _
  have hne : ¬ (m.kind = n.kind ∧ m.bal = n.bal ∧ m.acc = n.acc ∧ m.vb = n.vb ∧ cmpStr m.val n.val = 0) := by
    rintro ⟨a, b, c, d, e⟩
    exact h0 (by cases m; cases n; simp_all)
  unfold LtMsg at *
  omega
end Go.Proofs.Ybulkbivk
