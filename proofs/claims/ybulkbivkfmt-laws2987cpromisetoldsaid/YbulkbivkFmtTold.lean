/-
  THE TOLD ROW OF LawS2987CPromise, the walk given.
-/
import Derived.Test.YbulkbivkFmtRows
import Derived.Test.YbulkbivkFmtRowC
import Derived.ProofKit
import Derived.OpenShut
import Derived.ShutString
import Derived.ChangeOld
import Derived.Below
import Derived.Carry
import Derived.Stop.JoinedAt
import Derived.Stop.JoinedTold
namespace Go.Proofs.YbulkbivkFmt
open Go.ChangeShapes Go.WideShapes Go.ChangeAt Go.RowKit Go.Kit
open Go.Extern.Stop Go.Stop Go.Extern
set_option linter.unusedVariables false

def LawWalk : Prop := ∀ (F0 : Interp) (first extra fromRaw bRaw mode : Int) (ad : Option Addr) (len cap : Nat) (E : List InC) (w : World), F0.answers w.tape → RowC w ad len E →
    0 ≤ first ∧ first ≤ 255 → 0 ≤ extra ∧ extra ≤ 255 → 0 ≤ fromRaw ∧ fromRaw ≤ 65535 → -128 ≤ bRaw ∧ bRaw ≤ 127 → 0 ≤ mode ∧ mode ≤ 255 →
    Calls Ybaf.prog 3 #[.int .u8 first, .slice ad len cap, .int .u8 extra, .int .u16 fromRaw, .int .i8 bRaw, .int .u8 mode] w fun e w' => e = .returned (.bool true) ∧ Below w.heap.size w w'

theorem Ybaf.ownK : ownKnob Ybaf.prog.godebug = none := by kernel_rfl
theorem Ybaf.laidOutC : laidOutB Ybaf.prog = true := by kernel_rfl

set_option maxRecDepth 100000 in
theorem law_lifted (hlaw : LawWalk) (os : Os) (started : os.Started) (H : Type) (enc : TypeId × Value → H) :
    ReturnsInTold none {} Ybaf.checked os 3 .any Input.okWide ((OpenSpec.ofChange Rows.lawS2987CPromiseSpec).preRow enc Ybaf.prog Ybaf.f3 [] false []) (fun F => ((OpenSpec.ofChange Rows.lawS2987CPromiseSpec).at F).post enc Ybaf.prog Ybaf.f3 false true false false) (aloneAtReturn Ybaf.prog) nothingAlways := by
  refine returnsInTold_of_row (C := Ybaf.checked) (s := OpenSpec.ofChange Rows.lawS2987CPromiseSpec) (by kernel_rfl) Ybaf.ownK started (by kernel_rfl) Ybaf.func3
    (OpenSpec.witness_stopped (enc := enc) (C := Ybaf.checked) false ⟨#[], #[.int .u8 0, .slice none 0 0, .int .u8 0, .int .u16 0, .int .i8 0, .int .u8 0], []⟩ 8 (by kernel_rfl) (by kernel_rfl) (by kernel_rfl) (by kernel_rfl)) ?_
  intro F W base args ds gs before _ hF hval0 hW _ _ _ _ _
  have hval : ∀ (j : Nat) t v, Ybaf.f3.params[j]? = some t → args[j]? = some v → Value.okWide Ybaf.prog W .any base t v := hval0
  have hW' := hW
  obtain ⟨p, q, hA0, hV, rfl, hfz, hnd⟩ := hW
  have hA : DataW.TrodAll enc Ybaf.prog W 0 (fun _ => true) true Ybaf.f3.params.toList args.toList ds p := hA0
  rw [Ybaf.params3] at hA hval
  obtain ⟨v0, vs0, d0, ds0, p0, q0, hargs, rfl, rfl, h0, r0⟩ := trodAll_cons hA
  obtain ⟨v1, vs1, d1, ds1, p1, q1, rfl, rfl, rfl, h1, r1⟩ := trodAll_cons r0
  obtain ⟨v2, vs2, d2, ds2, p2, q2, rfl, rfl, rfl, h2, r2⟩ := trodAll_cons r1
  obtain ⟨v3, vs3, d3, ds3, p3, q3, rfl, rfl, rfl, h3, r3⟩ := trodAll_cons r2
  obtain ⟨v4, vs4, d4, ds4, p4, q4, rfl, rfl, rfl, h4, r4⟩ := trodAll_cons r3
  obtain ⟨v5, vs5, d5, ds5, p5, q5, rfl, rfl, rfl, h5, r5⟩ := trodAll_cons r4
  obtain ⟨rfl, rfl, rfl⟩ := trodAll_nil r5
  obtain rfl : args = #[v0, v1, v2, v3, v4, v5] := by cases args; simp_all
  obtain ⟨rfl, rfl⟩ := trodVars_none hV
  obtain ⟨b0, rfl, rfl, rfl, w0⟩ := open_int Ybaf.underlying5 (hval 0 5 v0 rfl rfl) h0
  obtain ⟨a1, len1, cap1, rfl⟩ := okWide_slice Ybaf.underlying22 (hval 1 22 v1 rfl rfl)
  obtain ⟨b2, rfl, rfl, rfl, w2⟩ := open_int Ybaf.underlying5 (hval 2 5 v2 rfl rfl) h2
  obtain ⟨b3, rfl, rfl, rfl, w3⟩ := open_int Ybaf.underlying23 (hval 3 23 v3 rfl rfl) h3
  obtain ⟨b4, rfl, rfl, rfl, w4⟩ := open_int Ybaf.underlying24 (hval 4 24 v4 rfl rfl) h4
  obtain ⟨b5, rfl, rfl, rfl, w5⟩ := open_int Ybaf.underlying5 (hval 5 5 v5 rfl rfl) h5
  have k1 := h1
  have lt1 : ∀ x ∈ p1, x.block < W.heap.size := by obtain ⟨m, hm⟩ := k1; exact DataW.trod_lt m _ _ _ hm
  obtain ⟨E, hE⟩ := open_rowC h1
  clear hA0 hval0
  refine (hlaw F.told b0 b2 b3 b4 b5 a1 len1 cap1 E W hF hE (bounds_u8 w0) (bounds_u8 w2) (bounds_u16 w3) (bounds_i8 w4) (bounds_u8 w5)).mono fun e W' ⟨he, bel⟩ => ?_
  subst he
  exact ⟨_, rfl, _, _, _, [], _, [], hW', trodAll_mk1 (shut_bool Ybaf.underlying4 _),
    (trodAll_cons_mk (shut_int Ybaf.underlying5 w0) (trodAll_cons_mk (Below.trod Ybaf.laidOutC (by kernel_rfl) (of_decide_eq_true (by kernel_rfl)) k1 bel lt1) (trodAll_cons_mk (shut_int Ybaf.underlying5 w2) (trodAll_cons_mk (shut_int Ybaf.underlying23 w3) (trodAll_cons_mk (shut_int Ybaf.underlying24 w4) (trodAll_cons_mk (shut_int Ybaf.underlying5 w5) trodAll_mk0)))))), rfl, bel.frame _, fun h => by cases h⟩
end Go.Proofs.YbulkbivkFmt
