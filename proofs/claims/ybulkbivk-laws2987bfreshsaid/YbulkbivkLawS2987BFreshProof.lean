/-
  'Rows.LawS2987BFreshSaid' PROVED. The frame: the given shell (proof-skeleton.mjs). The walk: mine.
-/
import Derived.Test.YbulkbivkRows
import Derived.Test.YbulkbivkChosen
import Derived.WalkKit
import Derived.ProofKit
import Derived.OpenShut
import Derived.ShutString
import Derived.Carry
namespace Go.Proofs.Ybulkbivk.lawS2987BFresh
open Go.ChangeShapes Go.WideShapes Go.ChangeAt Go.RowKit
open Go.ChangeMaps (open_string shut_string)
set_option linter.unusedVariables false      -- a walk need not use every 'w<i>' (that an integer argument fits its kind)

theorem own : ownKnob Yba.prog.godebug = none := by kernel_rfl

/-! ### STEP 1: THE WALK -/
theorem fresh_none {b : Int} {lo hi : Nat} (h : Stretch [m1a b] (atKB 4 b) lo hi) : hi = lo := by
  obtain ⟨h1, h2, _, h4, _⟩ := h
  simp at h2
  by_cases hl : lo < hi
  · have := h4 lo (m1a b) (Nat.le_refl _) hl (by rw [show lo = 0 by omega]; rfl)
    rw [atKB_zero] at this
    simp [m1a] at this
  · omega

set_option maxHeartbeats 400000 in
theorem walk (a0 : Int) (a1 : Int) (w0 : (Lit.int .u8 a0).wf = true) (w1 : (Lit.int .i64 a1).wf = true) (w : World) :
    Calls Yba.prog 6 #[.int .u8 a0, .int .i64 a1] w fun e w' => e = .returned (.bool true) ∧ Below w.heap.size w w' := by
  have hb := bounds_u8 w0
  obtain ⟨hb0, hb1⟩ := hb
  have CN : Hid (∀ W, Calls Yba.prog 16 #[.int .i64 a0, .int .i64 a1, .int .i64 0] W (NlPost a0 a1 0 W)) := fun W => newLeader_calls a0 a1 0 W
  clear w0 w1
  go_enter Yba.func6, Yba.ntmps6
  go_wp2_with fail
  refine (CN.out _).mono ?_
  rintro e w1 ⟨v, rfl, hblk, hown, hbel⟩
  have CC := chosen_calls (w.heap.size + 1) w.heap.size v [m1a a0] a0 a1 w1 (by simp) (List.pairwise_singleton _ _) hown (by simp [World.cell?, hblk]) (by simp [World.cell?, hblk]) (by simp [World.cell?, hblk])
  clear hblk hown
  go_wp2_with fail
  refine CC.mono ?_
  rintro e w2 ⟨lo, hi, hst, hb2, hres⟩
  have he := fresh_none hst
  subst he
  have HB : Hid (Below w.heap.size w w2) := hbel.trans (hb2.mono hbel.size)
  clear CC hst hbel hb2
  simp only [Nat.sub_self] at hres
  rcases hres with ⟨hq, rfl⟩ | ⟨hq, rfl⟩
  · have hq' : (0 : Int) < a1 := by simpa using hq
    have hd : decide (a1 ≤ 0) = false := decide_eq_false (by omega)
    clear hq
    go_wp2
    go_ret
    exact ⟨rfl, HB.out⟩
  · have hq' : a1 ≤ 0 := by have : ¬ (0 : Int) < a1 := by simpa using hq
                            omega
    have hl : lastV [m1a a0] hi hi = ⟨#[]⟩ := by simp [lastV]
    rw [hl]
    have hd : decide (a1 ≤ 0) = true := decide_eq_true hq'
    clear hq hl
    go_wp2
    go_ret
    exact ⟨rfl, HB.out⟩

/-! ### THE ROW's STEP: WRITTEN OUT: LEAVE IT -/
set_option maxRecDepth 100000 in
theorem lifted (os : Os) (started : os.Started) (H : Type) (enc : TypeId × Value → H) :
    ReturnsInHanded {} Yba.checked os 6 .any (Rows.lawS2987BFreshSpec.pre6 enc Yba.prog Yba.f6 Rows.lawS2987BFreshRow.domain false) (Rows.lawS2987BFreshSpec.post enc Yba.prog Yba.f6 false true false false) := by
  refine returnsInHanded_of_change (C := Yba.checked) own started (by kernel_rfl) Yba.func6
    (ChangeSpec.witness6 (enc := enc) (C := Yba.checked) false ⟨#[], #[.int .u8 0, .int .i64 0], []⟩ 8 (by kernel_rfl) (by kernel_rfl) (by kernel_rfl) (by kernel_rfl)) ?_
  intro W base args ds gs before hval0 hW hcnd _
  have hval : ∀ (j : Nat) t v, Yba.f6.params[j]? = some t → args[j]? = some v → Value.okWide Yba.prog W .any base t v := hval0
  have hW' := hW
  obtain ⟨p, q, hA0, hV, rfl, hfz, hnd⟩ := hW
  have hA : DataW.TrodAll enc Yba.prog W 0 (fun _ => true) true Yba.f6.params.toList args.toList ds p := hA0
  rw [Yba.params6] at hA hval
  obtain ⟨v0, vs0, d0, ds0, p0, q0, hargs, rfl, rfl, h0, r0⟩ := trodAll_cons hA
  obtain ⟨v1, vs1, d1, ds1, p1, q1, rfl, rfl, rfl, h1, r1⟩ := trodAll_cons r0
  obtain ⟨rfl, rfl, rfl⟩ := trodAll_nil r1
  obtain rfl : args = #[v0, v1] := by cases args; simp_all
  obtain ⟨rfl, rfl⟩ := trodVars_none hV
  obtain ⟨a0, rfl, rfl, rfl, w0⟩ := open_int Yba.underlying5 (hval 0 5 v0 rfl rfl) h0
  obtain ⟨a1, rfl, rfl, rfl, w1⟩ := open_int Yba.underlying3 (hval 1 3 v1 rfl rfl) h1
  clear hA0 hval0
  simp only [List.append_nil] at hW'
  refine (walk a0 a1 w0 w1 W).mono fun e W' ⟨he, hg⟩ => ?_
  subst he
  exact ⟨_, rfl, _, _, _, [], [], [], hW', trodAll_mk1 (shut_bool Yba.underlying4 _), (trodAll_cons_mk (shut_int Yba.underlying5 w0) (trodAll_cons_mk (shut_int Yba.underlying3 w1) trodAll_mk0)), rfl, hg.frame _, fun h => by cases h⟩

theorem over : Rows.lawS2987BFreshRow.holds Yba.pinned (OpenSpec.ofChange Rows.lawS2987BFreshSpec) :=
  OpenClaim.holds_of_wide 6 Yba.f6 rfl rfl rfl rfl rfl rfl rfl ⟨rfl, rfl, rfl, rfl, rfl⟩ rfl rfl rfl rfl rfl (by kernel_rfl) Yba.func6 (by kernel_rfl)
    (of_decide_eq_true (by kernel_rfl)) (by unfold Func.isWrapper; first | (rw [if_pos (by decide +kernel)]; kernel_rfl) | (rw [if_neg (by decide +kernel)]; exact ⟨rfl, rfl⟩))
    (fun os started H enc _ => lifted os started H enc)

/-- ████ THE STATEMENT ████ -/
theorem proved : Rows.LawS2987BFreshSaid :=
  over
#print axioms proved
end Go.Proofs.Ybulkbivk.lawS2987BFresh
