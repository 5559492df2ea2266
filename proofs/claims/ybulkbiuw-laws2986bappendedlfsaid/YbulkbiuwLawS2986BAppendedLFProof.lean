/-
  'Rows.LawS2986BAppendedLFSaid' PROVED. The frame: the given shell (proof-skeleton.mjs). The walk: mine.
-/
import Derived.Test.YbulkbiuwRows
import Derived.Test.YbulkbiuwLe
import Derived.WalkKit
import Derived.ProofKit
import Derived.OpenShut
import Derived.ShutString
import Derived.ChangeOld
import Derived.Below
import Derived.Laws.CopyOwn
import Derived.Deep.QuietTactic
import Derived.BigQuiet
namespace Go.Proofs.Ybulkbiuw.lawS2986BAppendedLF
open Go.ChangeShapes Go.WideShapes Go.ChangeAt Go.RowKit
open Go.ChangeMaps (open_string shut_string)
set_option linter.unusedVariables false

theorem own : ownKnob Yba.prog.godebug = none := by kernel_rfl
theorem laidOut : laidOutB Yba.prog = true := by kernel_rfl

/-- WHAT THE WALK IS TOLD OF A SLICE OF INTEGERS THAT CAME IN: it is nil; or it leads to a row of 'cap' cells, the numbers 'zs' (the first 'len' are its elements, the rest its spare room), each fitting its kind. -/
def IsRow (k : IntKind) (w : World) (a : Option Addr) (len cap : Nat) (zs : List Int) : Prop :=
  (a = none ∧ len = 0 ∧ cap = 0 ∧ zs = []) ∨
  ∃ x, a = some x ∧ len ≤ cap ∧ cap ≤ maxLen ∧ zs.length = cap ∧ (∀ i, i < zs.length → w.cell? (x.add i) = some (.int k (zs.getD i 0))) ∧ ∀ n ∈ zs, (Lit.int k n).wf = true

/-! ### STEP 1: THE WALK -/
set_option maxHeartbeats 400000 in
theorem walk_short (a0 : Option Addr) (len0 cap0 : Nat) (z0 : List Int) (w : World) (w0 : IsRow .u8 w a0 len0 cap0 z0) (hlen : len0 ≤ 4096) :
    Calls Yba.prog 4 #[.slice a0 len0 cap0] w fun e w' => e = .returned (.bool true) ∧ Below w.heap.size w w' := by
  obtain ⟨hlz, hsrc⟩ := row_src w0
  obtain ⟨i0, hi, hz0, hz1, hz2⟩ := info_parts info5
  have hle : (len0 : Int) ≤ 4096 := by omega
  have hd : decide ((4096 : Int) < (len0 : Int)) = false := decide_eq_false (by omega)
  obtain ⟨cs, hcs⟩ : ∃ cs, cs = (z0.take len0).map (Value.int .u8) := ⟨_, rfl⟩
  have hcsl : cs.length = len0 := by rw [hcs]; simp; omega
  have HC : Hid (cs.length = len0) := hcsl
  have HCS : Hid (cs = (z0.take len0).map (Value.int .u8)) := hcs
  clear hcs hcsl
  go_enter Yba.func4, Yba.ntmps4
  go_wp2_with (at_make; refine wpList_make_full _ rfl (.tmp 11) (.tmp 11) 22 rfl w.heap.size 5 i0 (.int .u8 0) 1 Yba.underlying22 hi hz0 hz1 .i64 .i64 _ _ (len0 + 1) rfl rfl ?_ ?_ ?_ ?_ ?_ ?_)
  · rfl
  · rfl
  · rw [hz2]; omega
  · unfold maxLen; omega
  · exact Nat.le_refl _
  intro w1 hown1 hgr1
  obtain ⟨cur, hcur, hblk1⟩ := made_block hown1
  have hb1 : Below w.heap.size w w1 := (Below.refl _ _).grown hgr1 (Nat.le_refl _) (fun k h => by cases h)
  have hsrc1 : ∀ j, j < len0 → ∃ b off, a0 = some ⟨b, off, none⟩ ∧ b < w.heap.size ∧ ∀ i, i < len0 → w1.cell? ⟨b, off + i, none⟩ = some (.int .u8 (z0.getD i 0)) := by
    intro j hj
    obtain ⟨b, off, h1, h2, h3⟩ := hsrc j hj
    exact ⟨b, off, h1, h2, fun i hi => by rw [hb1.cell h2]; exact h3 i hi⟩
  have HB1 : Hid (w1.heap[w.heap.size]? = some (.cells cur.toArray 5 (0, 0))) := hblk1
  have HCUR : Hid (cur.length = len0 + 1) := hcur
  clear hown1 hgr1 hblk1 hsrc hcur
  go_wp2_with ((refine wpList_copy_splice rfl (.tmp 13) (.tmp 14) 22 22 rfl 5 Yba.underlying22 size5 _ _ _ _ _ _ rfl rfl w.heap.size 0 cur 5 HB1.out cs ?_ ?_ ?_ ?_ w.heap.size w hb1 (Nat.le_refl _) ?_))
  · rw [HC.out]; simp
  · intro hp
    obtain ⟨b, off, rfl, h2, h3⟩ := hsrc1 0 (by have := HC.out; omega)
    refine ⟨_, rfl, fun j v hj => ?_⟩
    rw [HCS.out] at hj
    simp only [List.getElem?_map, Option.map_eq_some_iff] at hj
    obtain ⟨u, hu, rfl⟩ := hj
    rw [List.getElem?_take] at hu
    split at hu
    · rename_i hjl
      rw [add_plain, h3 j hjl, List.getD_eq_getElem?_getD, hu]; rfl
    · simp at hu
  · rw [HC.out, HCUR.out]; omega
  · intro v hv
    rw [HCS.out] at hv
    simp only [List.mem_map] at hv
    obtain ⟨u, _, rfl⟩ := hv
    rfl
  intro w2 HB2 hb2
  have hrow2 : ∀ j, w2.cell? ⟨w.heap.size, j, none⟩ = (splice cur 0 cs)[j]? ∧ w2.frozen? ⟨w.heap.size, j, none⟩ = false := fun j => row_cell HB2.out j
  have hsl : (splice cur 0 cs).length = len0 + 1 := by rw [length_splice _ _ _ (by rw [HC.out, HCUR.out]; omega), HCUR.out]
  have hlast : ∃ v, w2.cell? ⟨w.heap.size, len0, none⟩ = some v := ⟨(splice cur 0 cs)[len0]'(by omega), by rw [(hrow2 len0).1]; exact List.getElem?_eq_getElem _⟩
  obtain ⟨vl, hlast⟩ := hlast
  have hfz : w2.frozen? ⟨w.heap.size, len0, none⟩ = false := (hrow2 len0).2
  have hdst : ∀ j, j < len0 → w2.cell? ⟨w.heap.size, j, none⟩ = some (.int .u8 (z0.getD j 0)) := by
    intro j hj
    rw [(hrow2 j).1]
    have hcl := HC.out
    have e : (splice cur 0 cs)[j]? = cs[j]? := by
      unfold splice
      simp only [List.take_zero, List.nil_append]
      rw [List.getElem?_append_left (by omega)]
    rw [e, HCS.out]
    simp [hj, List.getElem?_eq_getElem (show j < z0.length by omega)]
  have hsrc2 : ∀ j, j < len0 → ∃ b off, a0 = some ⟨b, off, none⟩ ∧ b < w.heap.size ∧ ∀ i, i < len0 → w2.cell? ⟨b, off + i, none⟩ = some (.int .u8 (z0.getD i 0)) := by
    intro j hj
    obtain ⟨b, off, h1, h2, h3⟩ := hsrc1 j hj
    exact ⟨b, off, h1, h2, fun i hi => by rw [hb2.cell h2, ← hb1.cell h2]; exact h3 i hi⟩
  have HD2 := hdst
  clear hsrc1 hb1 hrow2 hsl HB2 HB1 hdst hi hz0 hz1 hz2
  go_wp2_with fail
  obtain ⟨W3, hW3⟩ : ∃ W3, W3 = w2.setCell ⟨w.heap.size, len0, none⟩ (.int .u8 10) := ⟨_, rfl⟩
  rw [← hW3]
  have h10 : W3.cell? ⟨w.heap.size, len0, none⟩ = some (.int .u8 10) := by rw [hW3]; exact World.cell?_setCell_same _ _ _ hlast
  have hd3 : ∀ j, j < len0 → W3.cell? ⟨w.heap.size, j, none⟩ = some (.int .u8 (z0.getD j 0)) := by
    intro j hj
    rw [hW3, World.cell?_setCell_other _ _ _ _ (by intro h; simp at h <;> omega)]
    exact HD2 j hj
  have hs3 : ∀ j, j < len0 → ∃ b off, a0 = some ⟨b, off, none⟩ ∧ b < w.heap.size ∧ ∀ i, i < len0 → W3.cell? ⟨b, off + i, none⟩ = some (.int .u8 (z0.getD i 0)) := by
    intro j hj
    obtain ⟨b, off, h1, h2, h3⟩ := hsrc2 j hj
    exact ⟨b, off, h1, h2, fun i hi => by rw [hW3, World.cell?_setCell_other _ _ _ _ (by intro h; simp at h <;> omega)]; exact h3 i hi⟩
  have hb3 : Below w.heap.size w W3 := by rw [hW3]; exact hb2.setCell (Nat.le_refl _) _
  clear hsrc2 HD2 hb2 hlast hfz hW3
  refine (le_cut w.heap.size 0 (len0 + 1) (len0 + 1) W3 (by omega) (by omega) (Nat.le_refl _) (by simpa using h10)).mono ?_
  rintro e w' ⟨rfl, rfl⟩
  simp only [Nat.add_sub_cancel]
  go_wp2_with fail
  go_loopw [5] (fun i wr => ∃ k nq : Nat, k ≤ len0 ∧ i = .int .i64 k ∧ wr = w'.drewN nq) (fun i _ => len0 - (intOf i).toNat)
  case atStart => exact ⟨0, 0, Nat.zero_le _, rfl, rfl⟩
  case round =>
    obtain ⟨k, nq, hk, rfl, rfl⟩ := hrel
    by_cases hlt : k < len0
    · obtain ⟨b, off, rfl, hb, hcs⟩ := hs3 k hlt
      have c1 := hcs k hlt
      have c2 := hd3 k hlt
      have hkn : (k : Int) < (len0 : Int) := by omega
      clear hcs hd3 hs3
      go_wp2
      go_quiet (fail)
      go_wp2
      go_roundw
      case rel => exact ⟨k + 1, _, by omega, by go_num, by simp [World.drewN]; rfl⟩
      case measure => simp [intOf]; omega
    · go_wp2
      go_ret
      exact ⟨rfl, hb3.trans ⟨rfl, rfl, rfl, Nat.le_refl _, fun _ _ => rfl⟩⟩

theorem walk (a0 : Option Addr) (len0 cap0 : Nat) (z0 : List Int) (w : World) (w0 : IsRow .u8 w a0 len0 cap0 z0) :
    Calls Yba.prog 4 #[.slice a0 len0 cap0] w fun e w' => e = .returned (.bool true) ∧ Below w.heap.size w w' := by
  by_cases hlen : len0 ≤ 4096
  · exact walk_short a0 len0 cap0 z0 w w0 hlen
  · have hgt : (4096 : Int) < (len0 : Int) := by omega
    go_enter Yba.func4, Yba.ntmps4
    go_wp2
    go_ret
    exact ⟨rfl, Below.refl _ _⟩

/-! ### THE ROW's STEP: WRITTEN OUT: LEAVE IT -/
set_option maxRecDepth 100000 in
theorem lifted (os : Os) (started : os.Started) (H : Type) (enc : TypeId × Value → H) :
    ReturnsInHanded {} Yba.checked os 4 .any (Rows.lawS2986BAppendedLFSpec.pre6 enc Yba.prog Yba.f4 Rows.lawS2986BAppendedLFRow.domain false) (Rows.lawS2986BAppendedLFSpec.post enc Yba.prog Yba.f4 false true false false) := by
  refine returnsInHanded_of_change (C := Yba.checked) own started (by kernel_rfl) Yba.func4
    (ChangeSpec.witness6 (enc := enc) (C := Yba.checked) false ⟨#[], #[.slice none 0 0], []⟩ 8 (by kernel_rfl) (by kernel_rfl) (by kernel_rfl) (by kernel_rfl)) ?_
  intro W base args ds gs before hval0 hW hcnd _
  have hval : ∀ (j : Nat) t v, Yba.f4.params[j]? = some t → args[j]? = some v → Value.okWide Yba.prog W .any base t v := hval0
  have hW' := hW
  obtain ⟨p, q, hA0, hV, rfl, hfz, hnd⟩ := hW
  have hA : DataW.TrodAll enc Yba.prog W 0 (fun _ => true) true Yba.f4.params.toList args.toList ds p := hA0
  rw [Yba.params4] at hA hval
  obtain ⟨v0, vs0, d0, ds0, p0, q0, hargs, rfl, rfl, h0, r0⟩ := trodAll_cons hA
  obtain ⟨rfl, rfl, rfl⟩ := trodAll_nil r0
  obtain rfl : args = #[v0] := by cases args; simp_all
  obtain ⟨rfl, rfl⟩ := trodVars_none hV
  obtain ⟨a0, len0, cap0, rfl⟩ := okWide_slice Yba.underlying22 (hval 0 22 v0 rfl rfl)
  have k0 := h0
  have lt0 : ∀ x ∈ p0, x.block < W.heap.size := by obtain ⟨m, hm⟩ := k0; exact DataW.trod_lt m _ _ _ hm
  obtain ⟨z0, w0⟩ : ∃ zs, IsRow .u8 W a0 len0 cap0 zs := by
    obtain ⟨fuel, hf⟩ := h0
    rcases open_ints Yba.underlying22 Yba.underlying5 (by kernel_rfl) hf with ⟨hcs, _⟩ | ⟨x, l, c, zs, hcs, _, hl, hm, hz, _, hcell, hwz⟩
    · simp [Value.cells] at hcs
      obtain ⟨rfl, rfl, rfl⟩ := hcs
      exact ⟨[], .inl ⟨rfl, rfl, rfl, rfl⟩⟩
    · simp [Value.cells] at hcs
      obtain ⟨rfl, rfl, rfl⟩ := hcs
      exact ⟨zs, .inr ⟨_, rfl, hl, hm, by simpa using hz, hcell, hwz⟩⟩
  clear hA0 hval0
  refine (walk a0 len0 cap0 z0 W w0).mono fun e W' ⟨he, bel⟩ => ?_
  subst he
  exact ⟨_, rfl, _, _, _, [], _, [], hW', trodAll_mk1 (shut_bool Yba.underlying4 _), (trodAll_cons_mk (Below.trod laidOut (by kernel_rfl) (of_decide_eq_true (by kernel_rfl)) k0 bel lt0) trodAll_mk0), rfl, bel.frame _, fun h => by cases h⟩

theorem over : Rows.lawS2986BAppendedLFRow.holds Yba.pinned (OpenSpec.ofChange Rows.lawS2986BAppendedLFSpec) :=
  OpenClaim.holds_of_wide 4 Yba.f4 rfl rfl rfl rfl rfl rfl rfl ⟨rfl, rfl, rfl, rfl, rfl⟩ rfl rfl rfl rfl rfl (by kernel_rfl) Yba.func4 (by kernel_rfl)
    (of_decide_eq_true (by kernel_rfl)) (by unfold Func.isWrapper; first | (rw [if_pos (by decide +kernel)]; kernel_rfl) | (rw [if_neg (by decide +kernel)]; exact ⟨rfl, rfl⟩))
    (fun os started H enc _ => lifted os started H enc)

/-- ████ THE STATEMENT ████ -/
theorem proved : Rows.LawS2986BAppendedLFSaid := over
#print axioms proved
end Go.Proofs.Ybulkbiuw.lawS2986BAppendedLF
