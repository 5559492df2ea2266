/-
  A SLICE OF STRUCTS OF THREE CELLS THAT CAME IN, opened: what the walk is told of it.
-/
import Derived.Test.YbulkbivkFmtRows
import Derived.ProofKit
import Derived.OpenShut
import Derived.ShutString
import Derived.ChangeOld
import Derived.Below
import Derived.Carry
import Derived.Deep.Slices
namespace Go.Proofs.YbulkbivkFmt
open Go.ChangeShapes Go.WideShapes Go.ChangeAt Go.RowKit Go.Deep

section
variable {H : Type} {enc : TypeId × Value → H} {P : Program} {w : World} {base : Nat} {spare : Nat → Bool} {held : Bool}

theorem open_three {t e : TypeId} {f0 f1 f2 : Field} (ht : P.underlying t = some (.slice e)) (he : P.underlying e = some (.struct #[f0, f1, f2])) (ce : P.cellsOf e = 3)
    (o0 : f0.offset = 0) (o1 : f1.offset = 1) (o2 : f2.offset = 2)
    (c0 : P.cellsOf f0.type = 1) (c1 : P.cellsOf f1.type = 1) (c2 : P.cellsOf f2.type = 1)
    {ad : Option Addr} {len cap : Nat} {d : DataW H} {p : List MemPlace} (h : DataW.Trod enc P w base spare held t (.slice ad len cap) d p) :
    (ad = none ∧ len = 0 ∧ cap = 0) ∨ ∃ a, ad = some a ∧ len ≤ cap ∧ cap ≤ maxLen ∧
      ∀ i, i < len → ∃ (v0 v1 v2 : Value) (y0 y1 y2 : DataW H × List MemPlace) (n : Nat),
        w.cell? (a.add (i * 3)) = some v0 ∧ w.cell? (a.add (i * 3 + 1)) = some v1 ∧ w.cell? (a.add (i * 3 + 2)) = some v2 ∧
        DataW.trod enc P w base spare held n f0.type [v0] = some y0 ∧ DataW.trod enc P w base spare held n f1.type [v1] = some y1 ∧ DataW.trod enc P w base spare held n f2.type [v2] = some y2 := by
  obtain ⟨fuel, hf⟩ := h
  rcases open_slice ht hf with ⟨hcs, _⟩ | ⟨a, l, c, m, n, D, Pl, hcs, hb, hl, hm, hmm, _, hx⟩
  · simp [Value.cells] at hcs
    exact .inl hcs
  · simp [Value.cells] at hcs
    obtain ⟨rfl, rfl, rfl⟩ := hcs
    refine .inr ⟨a, rfl, hl, hm, fun i hi => ?_⟩
    have hlm : len ≤ m := by rw [hmm]; split <;> omega
    obtain ⟨cs', h1, h2⟩ := hx i (by omega)
    rw [ce] at h1
    obtain ⟨_, hlen, hcell⟩ := World.cells?_some h1
    obtain ⟨xs, k, hk, hxy, _, hxl, hff⟩ := DataW.trod_struct he h2
    match xs, hxl, cs', hlen with
    | [y0, y1, y2], _, [v0, v1, v2], _ =>
      have g0 := hff 0 f0 rfl
      have g1 := hff 1 f1 rfl
      have g2 := hff 2 f2 rfl
      simp [o0, o1, o2, c0, c1, c2] at g0 g1 g2
      have e0 := hcell 0 (by omega)
      have e1 := hcell 1 (by omega)
      have e2 := hcell 2 (by omega)
      rw [add_add] at e0 e1 e2
      exact ⟨v0, v1, v2, y0, y1, y2, k, by simpa using e0, by simpa using e1, by simpa using e2, g0, g1, g2⟩
end

/-- One entry of the slice that LawS2987CPromise is given. -/
structure InC where
  s : Nat
  b : Int
  v : ByteArray

def InC.ok (e : InC) : Prop := e.s < 256 ∧ (0 ≤ e.b ∧ e.b ≤ 255)

def RowC (w : World) (ad : Option Addr) (len : Nat) (E : List InC) : Prop :=
  E.length = len ∧ (∀ e ∈ E, e.ok) ∧ (0 < len → ∃ b off, ad = some ⟨b, off, none⟩ ∧ b < w.heap.size ∧ ∀ (j : Nat) (e : InC), E[j]? = some e →
    w.cell? ⟨b, off + j * 3, none⟩ = some (.int .u8 (e.s : Int)) ∧ w.cell? ⟨b, off + j * 3 + 1, none⟩ = some (.int .u8 e.b) ∧ w.cell? ⟨b, off + j * 3 + 2, none⟩ = some (.string e.v))

theorem open_rowC {H : Type} {enc : TypeId × Value → H} {w : World} {base : Nat} {spare : Nat → Bool} {held : Bool} {ad : Option Addr} {len cap : Nat} {d : DataW H} {p : List MemPlace}
    (h : DataW.Trod enc Ybaf.prog w base spare held 22 (.slice ad len cap) d p) : ∃ E, RowC w ad len E := by
  rcases open_three (P := Ybaf.prog) Ybaf.underlying22 Ybaf.underlying31 (by kernel_rfl) rfl rfl rfl (by kernel_rfl) (by kernel_rfl) (by kernel_rfl) h with ⟨rfl, rfl, rfl⟩ | ⟨a, rfl, hl, hm, hx⟩
  · exact ⟨[], rfl, (fun e he => by cases he), fun h => absurd h (Nat.lt_irrefl _)⟩
  · have each : ∀ i, i < len → ∃ e : InC, e.ok ∧ w.cell? (a.add (i * 3)) = some (.int .u8 (e.s : Int)) ∧ w.cell? (a.add (i * 3 + 1)) = some (.int .u8 e.b) ∧ w.cell? (a.add (i * 3 + 2)) = some (.string e.v) := by
      intro i hi
      obtain ⟨v0, v1, v2, y0, y1, y2, n, q0, q1, q2, g0, g1, g2⟩ := hx i hi
      obtain ⟨z0, e0, _, w0⟩ := DataW.trod_int Ybaf.underlying5 g0
      obtain ⟨z1, e1, _, w1⟩ := DataW.trod_int Ybaf.underlying5 g1
      obtain ⟨z2, e2, _, _⟩ := DataW.trod_string Ybaf.underlying9 g2
      simp only [List.cons.injEq, and_true] at e0 e1 e2
      subst e0 e1 e2
      have b0 := bounds_u8 w0
      have b1 := bounds_u8 w1
      have hz : ((z0.toNat : Nat) : Int) = z0 := by omega
      exact ⟨⟨z0.toNat, z1, z2⟩, ⟨by show z0.toNat < 256; omega, b1⟩, by rw [hz]; exact q0, q1, q2⟩
    have hinh : Inhabited InC := ⟨⟨0, 0, ⟨#[]⟩⟩⟩
    obtain ⟨f, hf⟩ := @choose_lt InC hinh _ _ each
    refine ⟨(List.range len).map f, by simp, ?_, ?_⟩
    · intro e he
      simp only [List.mem_map, List.mem_range] at he
      obtain ⟨i, hi, rfl⟩ := he
      exact (hf i hi).1
    · intro h0
      obtain ⟨b, off, spot⟩ := a
      have hsp : spot = none := by simpa [Addr.add] using World.cell?_spot (hf 0 h0).2.1
      subst hsp
      refine ⟨b, off, rfl, ?_, ?_⟩
      · have := World.block_lt_of_cell? w _ (hf 0 h0).2.1; rw [add_plain] at this; exact this
      · intro j e he
        rw [List.getElem?_map, Option.map_eq_some_iff] at he
        obtain ⟨i, hi, rfl⟩ := he
        have hij := List.getElem?_eq_some_iff.1 hi
        obtain ⟨hjl, hji⟩ := hij
        simp at hji hjl
        subst hji
        have := (hf j hjl).2
        simp only [add_plain, ← Nat.add_assoc] at this
        exact this
end Go.Proofs.YbulkbivkFmt
