/-
  PLAIN DATA: a kept vote; what is kept, slot by slot; the map's reading.
-/
import Derived.Test.YbulkbivkFmtRows
import Derived.Maps.Own
import Derived.Maps.OwnSet
import Derived.Maps.Views
namespace Go.Proofs.YbulkbivkFmt
open Go.Maps
set_option linter.unusedVariables false

structure SV where
  slot : Int
  bal : Int
  val : ByteArray

def SV.cells (s : SV) : List Value := [.int .i64 s.slot, .int .i64 s.bal, .string s.val]
def SV.zero : SV := ⟨0, 0, ⟨#[]⟩⟩
theorem SV.cells_len (s : SV) : s.cells.length = 3 := rfl
theorem SV.cells_one (s : SV) : ∀ v ∈ s.cells, v.oneCell' = true := by
  intro v hv
  simp only [SV.cells, List.mem_cons, List.not_mem_nil, or_false] at hv
  rcases hv with rfl | rfl | rfl <;> rfl

/-- The datum of a kept vote. -/
def svD (s : SV) : DataW Unit := .agg [.lit (.int .i64 s.slot), .lit (.int .i64 s.bal), .lit (.string s.val.data.toList)]
theorem svD_inj {a b : SV} (h : svD a = svD b) : a = b := by
  obtain ⟨a1, a2, ⟨⟨a3⟩⟩⟩ := a
  obtain ⟨b1, b2, ⟨⟨b3⟩⟩⟩ := b
  simp [svD] at h
  obtain ⟨h1, h2, h3⟩ := h
  subst h1 h2 h3
  rfl

/-- How a kept vote in the map reads. -/
def svElem : Value → Option (DataW Unit × List MemPlace)
  | .agg cs => match cs.toList with
    | [.int .i64 a, .int .i64 b, .string s] => some (svD ⟨a, b, s⟩, [])
    | _ => none
  | _ => none
theorem svElem_mk (s : SV) : svElem (.agg s.cells.toArray) = some (svD s, []) := by simp [svElem, SV.cells]
theorem svElem_inv {v : Value} {y : DataW Unit × List MemPlace} (h : svElem v = some y) : ∃ s : SV, v = .agg s.cells.toArray ∧ y = (svD s, []) := by
  unfold svElem at h
  split at h
  · rename_i cs
    split at h
    · rename_i a b s he
      simp only [Option.some.injEq] at h
      exact ⟨⟨a, b, s⟩, by cases cs; simp_all [SV.cells], h.symm⟩
    · cases h
  · cases h

/-! what is kept: at most one vote a place -/
def upd (F : Nat → Option SV) (i : Nat) (s : SV) : Nat → Option SV := fun j => if j = i then some s else F j
theorem upd_same (F : Nat → Option SV) (i : Nat) (s : SV) : upd F i s i = some s := by simp [upd]
theorem upd_other (F : Nat → Option SV) {i j : Nat} (s : SV) (h : j ≠ i) : upd F i s j = F j := by simp [upd, h]

def cntF (F : Nat → Option SV) : Nat → Nat
  | 0 => 0
  | n + 1 => cntF F n + if (F n).isSome then 1 else 0
theorem cntF_le (F : Nat → Option SV) : ∀ n, cntF F n ≤ n
  | 0 => Nat.le_refl _
  | n + 1 => by have := cntF_le F n; simp only [cntF]; split <;> omega
theorem cntF_upd (F : Nat → Option SV) (i : Nat) (s : SV) : ∀ n, cntF (upd F i s) n = cntF F n + if i < n ∧ (F i).isSome = false then 1 else 0
  | 0 => by simp [cntF]
  | n + 1 => by
    have ih := cntF_upd F i s n
    simp only [cntF]
    rw [ih]
    by_cases h : n = i
    · subst h
      rw [upd_same]
      cases hF : (F n).isSome <;> simp
    · rw [upd_other F s h]
      by_cases h1 : i < n
      · simp only [show i < n + 1 from by omega, h1, true_and]; omega
      · simp only [show ¬ i < n + 1 from by omega, h1, false_and, if_false]; omega

theorem cntF_none : ∀ n, cntF (fun _ => none) n = 0
  | 0 => rfl
  | n + 1 => by simp [cntF, cntF_none n]

/-- The map reads as what is kept: place i at key f + i. -/
structure MapIs (D : DataW Unit) (f : Int) (F : Nat → Option SV) : Prop where
  tidy : Tidy D
  has : ∀ i : Nat, i < 256 → Maps.has D (.int .i64 (f + i)) = (F i).isSome
  at_ : ∀ (i : Nat) (s : SV), i < 256 → F i = some s → ∀ z, D.atKey (.int .i64 (f + i)) z = svD s
  keys : ∀ kl, Maps.has D kl = true → ∃ i : Nat, i < 256 ∧ kl = .int .i64 (f + i)
  size : Maps.size D = cntF F 256
  slot : ∀ (i : Nat) (s : SV), F i = some s → s.slot = f + i

theorem int_key (a : Int) : WideAt.IsKeyLit (.int .i64 a) := by trivial
theorem MapIs.start (f : Int) : MapIs (.map []) f (fun _ => none) where
  tidy := tidy_empty
  has i _ := rfl
  at_ i s _ h := by cases h
  keys kl h := by simp [Maps.has] at h
  size := (cntF_none 256).symm
  slot i s h := by cases h
theorem key_ne {f : Int} {i j : Nat} (h : j ≠ i) : (Lit.int .i64 (f + j)) ≠ .int .i64 (f + i) := by
  intro e; simp at e; omega
theorem MapIs.put {D : DataW Unit} {f : Int} {F : Nat → Option SV} (h : MapIs D f F) {i : Nat} (hi : i < 256) {s : SV} (hs : s.slot = f + i) : MapIs (D.put (.int .i64 (f + i)) (svD s)) f (upd F i s) where
  tidy := h.tidy.put (int_key _) _
  has j hj := by
    by_cases e : j = i
    · subst e; rw [has_put_same h.tidy.isMap (int_key _), upd_same]; rfl
    · rw [has_put_other (key_ne e), upd_other F s e]; exact h.has j hj
  at_ j t hj ht z := by
    by_cases e : j = i
    · subst e; rw [upd_same] at ht; cases ht; exact atKey_put_same h.tidy.isMap (int_key _) _ _
    · rw [upd_other F s e] at ht; rw [atKey_put_other (key_ne e)]; exact h.at_ j t hj ht z
  keys kl hk := by
    by_cases e : kl = .int .i64 (f + i)
    · exact ⟨i, hi, e⟩
    · rw [has_put_other e] at hk; exact h.keys kl hk
  size := by
    rw [size_put h.tidy, h.has i hi, h.size, cntF_upd]
    cases (F i).isSome <;> simp [hi]
  slot j t ht := by
    by_cases e : j = i
    · subst e; rw [upd_same] at ht; cases ht; exact hs
    · rw [upd_other F s e] at ht; exact h.slot j t ht
end Go.Proofs.YbulkbivkFmt
