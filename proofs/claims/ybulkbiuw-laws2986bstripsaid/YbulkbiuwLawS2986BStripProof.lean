/-
  'Rows.LawS2986BStripSaid' PROVED. The frame: the given shell (proof-skeleton.mjs). The walks: mine.
-/
import Derived.Test.YbulkbiuwRows
import Derived.Test.YbulkbiuwLe
import Derived.WalkKit
import Derived.ProofKit
import Derived.OpenShut
import Derived.ShutString
import Derived.ChangeOld
import Derived.Below
import Derived.Laws.CopyOwn
import Derived.Deep.QuietTactic
import Derived.BigQuiet
import Derived.WalkSpells
import Derived.LaidEqlPtr
import Derived.WalkSmall
namespace Go.Proofs.Ybulkbiuw.lawS2986BStrip
open Go.ChangeShapes Go.WideShapes Go.ChangeAt Go.RowKit
open Go.ChangeMaps (open_string shut_string)
set_option linter.unusedVariables false

theorem own : ownKnob Yba.prog.godebug = none := by kernel_rfl
theorem laidOut : laidOutB Yba.prog = true := by kernel_rfl

/-- WHAT THE WALK IS TOLD OF A SLICE OF INTEGERS THAT CAME IN: it is nil; or it leads to a row of 'cap' cells, the numbers 'zs' (the first 'len' are its elements, the rest its spare room), each fitting its kind. -/
def IsRow (k : IntKind) (w : World) (a : Option Addr) (len cap : Nat) (zs : List Int) : Prop :=
  (a = none ∧ len = 0 ∧ cap = 0 ∧ zs = []) ∨
  ∃ x, a = some x ∧ len ≤ cap ∧ cap ≤ maxLen ∧ zs.length = cap ∧ (∀ i, i < zs.length → w.cell? (x.add i) = some (.int k (zs.getD i 0))) ∧ ∀ n ∈ zs, (Lit.int k n).wf = true

/-! ### STEP 1: THE WALK -/
theorem copy_nil (w : World) :
    Calls Yba.prog 5 #[.slice none 0 0] w fun e w' => e = .returned (.slice none 0 0) ∧ w' = w := by
  have q22 : ∀ (w : World) (a : Option Addr) (n c n' c' : Nat), (binOp .eql 22 (.slice a n c) (.slice none n' c')).run Yba.prog w = .ok (.bool a.isNone) w := fun w a n c n' c' => Lib.run_eql_slice_nil w _ _ a n c n' c' Yba.underlying22
  go_enter Yba.func5, Yba.ntmps5
  go_wp2
  go_ret
  exact ⟨rfl, rfl⟩

set_option maxHeartbeats 400000 in
theorem copy_some (ad : Addr) (len0 cap0 : Nat) (z0 : List Int) (w : World) (hlen : len0 ≤ 4096) (hz : len0 ≤ z0.length)
    (hsrc : ∀ i, i < len0 → w.cell? (ad.add i) = some (.int .u8 (z0.getD i 0))) (hb0 : 0 < len0 → ad.block < w.heap.size):
    Calls Yba.prog 5 #[.slice (some ad) len0 cap0] w fun e w' => e = .returned (.slice (some ⟨w.heap.size, 0, none⟩) len0 len0) ∧ Below w.heap.size w w' ∧
      ∀ i, i < len0 → w'.cell? ⟨w.heap.size, i, none⟩ = some (.int .u8 (z0.getD i 0)) := by
  have q22 : ∀ (w : World) (a : Option Addr) (n c n' c' : Nat), (binOp .eql 22 (.slice a n c) (.slice none n' c')).run Yba.prog w = .ok (.bool a.isNone) w := fun w a n c n' c' => Lib.run_eql_slice_nil w _ _ a n c n' c' Yba.underlying22
  obtain ⟨i0, hi, hz0, hz1, hz2⟩ := info_parts info5
  have hle : (len0 : Int) ≤ 4096 := by omega
  obtain ⟨cs, hcs⟩ : ∃ cs, cs = (z0.take len0).map (Value.int .u8) := ⟨_, rfl⟩
  have hcsl : cs.length = len0 := by rw [hcs]; simp; omega
  have HC : Hid (cs.length = len0) := hcsl
  have HCS : Hid (cs = (z0.take len0).map (Value.int .u8)) := hcs
  clear hcs hcsl
  go_enter Yba.func5, Yba.ntmps5
  go_wp2_with (at_make; refine wpList_make_full _ rfl (.tmp 7) (.tmp 7) 22 rfl w.heap.size 5 i0 (.int .u8 0) 1 Yba.underlying22 hi hz0 hz1 .i64 .i64 _ _ len0 rfl rfl ?_ ?_ ?_ ?_ ?_ ?_)
  · rfl
  · rfl
  · rw [hz2]; omega
  · unfold maxLen; omega
  · exact Nat.le_refl _
  intro w1 hown1 hgr1
  obtain ⟨cur, hcur, hblk1⟩ := made_block hown1
  have hb1 : Below w.heap.size w w1 := (Below.refl _ _).grown hgr1 (Nat.le_refl _) (fun k h => by cases h)
  have hsrc1 : ∀ i, i < len0 → w1.cell? (ad.add i) = some (.int .u8 (z0.getD i 0)) := fun i hi => by rw [hb1.cell (show (ad.add i).block < w.heap.size from by have := hb0 (by omega); unfold Addr.add; split <;> exact this)]; exact hsrc i hi
  have HB1 : Hid (w1.heap[w.heap.size]? = some (.cells cur.toArray 5 (0, 0))) := hblk1
  have HCUR : Hid (cur.length = len0) := hcur
  clear hown1 hgr1 hblk1 hsrc hcur
  go_wp2_with ((refine wpList_copy_splice rfl (.tmp 9) (.tmp 10) 22 22 rfl 5 Yba.underlying22 size5 _ _ _ _ _ _ rfl rfl w.heap.size 0 cur 5 HB1.out cs ?_ ?_ ?_ ?_ w.heap.size w hb1 (Nat.le_refl _) ?_))
  · rw [HC.out]; simp
  · intro hp
    intro j v hj
    rw [HCS.out] at hj
    simp only [List.getElem?_map, Option.map_eq_some_iff] at hj
    obtain ⟨u, hu, rfl⟩ := hj
    rw [List.getElem?_take] at hu
    split at hu
    · rename_i hjl
      rw [hsrc1 j hjl, List.getD_eq_getElem?_getD, hu]; rfl
    · simp at hu
  · rw [HC.out, HCUR.out]; omega
  · intro v hv
    rw [HCS.out] at hv
    simp only [List.mem_map] at hv
    obtain ⟨u, _, rfl⟩ := hv
    rfl
  intro w2 HB2 hb2
  clear hsrc1 hb1 HB1 hi hz0 hz1 hz2
  go_wp2
  go_ret
  refine ⟨rfl, hb2, fun j hj => ?_⟩
  rw [(row_cell HB2.out j).1]
  have hcl := HC.out
  have e : (splice cur 0 cs)[j]? = cs[j]? := by
    unfold splice
    simp only [List.take_zero, List.nil_append]
    rw [List.getElem?_append_left (by omega)]
  rw [e, HCS.out]
  simp [hj, List.getElem?_eq_getElem (show j < z0.length by omega)]

theorem drewN_add (w : World) (a b : Nat) : (w.drewN a).drewN b = w.drewN (a + b) := by simp [World.drewN, Nat.add_assoc]

theorem run_neq_ptr_same {P : Program} (w : World) {tp te : TypeId} {j : TypeInfo} (a : Addr) (hp : P.underlying tp = some (.pointer te)) (hte : P.info? te = some j) :
    (binOp .neq tp (.pointer (some a)) (.pointer (some a))).run P w = .ok (.bool false) w := by
  have h := run_eql_ptr_same (P := P) w a hp hte
  simp only [binOp] at h ⊢
  simp only [Op.equal, Op.maxDepth] at h ⊢
  have h2 : ∀ d : Nat, (Op.equalIn (d + 1) tp (.pointer (some a)) (.pointer (some a))).run P w = .ok true w := fun d => by
    simp [Op.equalIn, run_underlying hp, sizeOf, typeInfo, hte, run_sameAddr_same]
  simp [h2 9999]

theorem strip_nil (w : World) :
    Calls Yba.prog 3 #[.slice none 0 0] w fun e w' => e = .returned (.bool true) ∧ Below w.heap.size w w' := by
  have q22 : ∀ (w : World) (a : Option Addr) (n c n' c' : Nat), (binOp .eql 22 (.slice a n c) (.slice none n' c')).run Yba.prog w = .ok (.bool a.isNone) w := fun w a n c n' c' => Lib.run_eql_slice_nil w _ _ a n c n' c' Yba.underlying22
  go_enter Yba.func3, Yba.ntmps3
  go_wp2_with fail
  refine (copy_nil w).mono ?_
  rintro e w1 ⟨rfl, rfl⟩
  go_wp2_with fail
  refine (le_empty none 0 w1).mono ?_
  rintro e w2 ⟨rfl, rfl⟩
  go_wp2_with fail
  refine wp_loop_rounds 1 ?_; rw [rounds_succ]
  go_wp2
  go_quiet (fail)
  go_wp2_with fail
  refine wp_loop_rounds 1 ?_; rw [rounds_succ]
  go_wp2
  go_ret
  exact ⟨rfl, below_drewN (Below.refl _ _) _⟩

set_option maxHeartbeats 1000000 in
theorem strip_cut (b0 off0 m cap0 : Nat) (z0 : List Int) (w : World) (hlen : m + 1 ≤ 4096) (hz : m + 1 ≤ z0.length)
    (hsrc : ∀ i, i < m + 1 → w.cell? ⟨b0, off0 + i, none⟩ = some (.int .u8 (z0.getD i 0))) (hb0 : b0 < w.heap.size) (hl : z0.getD m 0 = 10) :
    Calls Yba.prog 3 #[.slice (some ⟨b0, off0, none⟩) (m + 1) cap0] w fun e w' => e = .returned (.bool true) ∧ Below w.heap.size w w' := by
  have q22 : ∀ (w : World) (a : Option Addr) (n c n' c' : Nat), (binOp .eql 22 (.slice a n c) (.slice none n' c')).run Yba.prog w = .ok (.bool a.isNone) w := fun w a n c n' c' => Lib.run_eql_slice_nil w _ _ a n c n' c' Yba.underlying22
  obtain ⟨i5, hi5, _⟩ := info_parts info5
  have qptr : ∀ (w : World) (a : Addr), (binOp .neq 24 (.pointer (some a)) (.pointer (some a))).run Yba.prog w = .ok (.bool false) w := fun w a => run_neq_ptr_same w a Yba.underlying24 hi5
  clear hi5
  have hle : (m : Int) + 1 ≤ 4096 := by omega
  have hd : decide ((4096 : Int) < (m : Int) + 1) = false := decide_eq_false (by omega)
  have HL : Hid (z0.getD m 0 = 10) := hl
  clear hl
  go_enter Yba.func3, Yba.ntmps3
  go_wp2_with fail
  refine (copy_some ⟨b0, off0, none⟩ (m + 1) cap0 z0 w hlen hz (fun i hi => by rw [add_plain]; exact hsrc i hi) (fun _ => hb0)).mono ?_
  rintro e w1 ⟨rfl, hb1, hdst⟩
  have HS : Hid (∀ i, i < m + 1 → w1.cell? ⟨b0, off0 + i, none⟩ = some (.int .u8 (z0.getD i 0))) := fun i hi => by rw [hb1.cell hb0]; exact hsrc i hi
  have HDD : Hid (∀ i, i < m + 1 → w1.cell? ⟨w.heap.size, i, none⟩ = some (.int .u8 (z0.getD i 0))) := hdst
  have hlast : w1.cell? ⟨w.heap.size, m, none⟩ = some (.int .u8 10) := by rw [hdst _ (by omega), HL.out]
  clear hsrc hdst
  go_wp2_with fail
  refine (le_cut w.heap.size 0 (m + 1) (m + 1) w1 (by omega) (by omega) (Nat.le_refl _) (by simpa using hlast)).mono ?_
  simp only [Nat.add_sub_cancel]
  rintro e w2 ⟨rfl, rfl⟩
  go_wp2_with fail
  go_loopw [6] (fun i wr => ∃ k nq : Nat, k ≤ m ∧ i = .int .i64 k ∧ wr = w2.drewN nq) (fun i _ => m - (intOf i).toNat)
  case atStart => exact ⟨0, 0, Nat.zero_le _, rfl, rfl⟩
  case round =>
    obtain ⟨k, nq, hk, rfl, rfl⟩ := hrel
    by_cases hlt : k < m
    · have c1 := HS.out k (by omega)
      have c2 := HDD.out k (by omega)
      have hkn : (k : Int) < (m : Int) := by omega
      have hkn1 : (k : Int) < (m : Int) + 1 := by omega
      go_wp2
      go_quiet (fail)
      go_wp2
      go_roundw
      case rel => exact ⟨k + 1, _, by omega, by go_num, rfl⟩
      case measure => simp [intOf]; omega
    · by_cases hm0 : 0 < m
      · have hm1 : (0 : Int) < (m : Int) := by omega
        have hm2 : (0 : Int) < (m : Int) + 1 := by omega
        go_wp2
        go_quiet (fail)
        go_wp2_with fail
        clear hlast hlt hk hm0 hm1 hm2
        go_loopw [7] (fun i wr => ∃ k nq : Nat, k ≤ m + 1 ∧ i = .int .i64 k ∧ wr = w2.drewN nq) (fun i _ => m + 1 - (intOf i).toNat)
        case atStart => exact ⟨0, _, Nat.zero_le _, rfl, drewN_add w2 _ _⟩
        case round =>
          obtain ⟨k, nq, hk, rfl, rfl⟩ := hrel
          by_cases hlt : k < m + 1
          · have c1 := HS.out k (by omega)
            have c2 := HDD.out k (by omega)
            have hkn1 : (k : Int) < (m : Int) + 1 := by omega
            go_wp2
            go_quiet (fail)
            go_wp2
            go_roundw
            case rel => exact ⟨k + 1, _, by omega, by go_num, rfl⟩
            case measure => simp [intOf]; omega
          · have hge : ¬ ((k : Int) < (m : Int) + 1) := by omega
            clear hlt hk
            go_wp2
            go_ret
            exact ⟨rfl, below_drewN hb1 _⟩
      · have hdz : decide ((0 : Int) < (m : Int)) = false := decide_eq_false (by omega)
        go_wp2
        go_quiet (fail)
        go_wp2_with fail
        clear hlast hlt hk hm0 hdz
        go_loopw [7] (fun i wr => ∃ k nq : Nat, k ≤ m + 1 ∧ i = .int .i64 k ∧ wr = w2.drewN nq) (fun i _ => m + 1 - (intOf i).toNat)
        case atStart => exact ⟨0, _, Nat.zero_le _, rfl, drewN_add w2 _ _⟩
        case round =>
          obtain ⟨k, nq, hk, rfl, rfl⟩ := hrel
          by_cases hlt : k < m + 1
          · have c1 := HS.out k (by omega)
            have c2 := HDD.out k (by omega)
            have hkn1 : (k : Int) < (m : Int) + 1 := by omega
            go_wp2
            go_quiet (fail)
            go_wp2
            go_roundw
            case rel => exact ⟨k + 1, _, by omega, by go_num, rfl⟩
            case measure => simp [intOf]; omega
          · have hge : ¬ ((k : Int) < (m : Int) + 1) := by omega
            clear hlt hk
            go_wp2
            go_ret
            exact ⟨rfl, below_drewN hb1 _⟩

set_option maxHeartbeats 1000000 in
theorem strip_keep (b0 off0 m cap0 : Nat) (z0 : List Int) (w : World) (hlen : m + 1 ≤ 4096) (hz : m + 1 ≤ z0.length)
    (hsrc : ∀ i, i < m + 1 → w.cell? ⟨b0, off0 + i, none⟩ = some (.int .u8 (z0.getD i 0))) (hb0 : b0 < w.heap.size) (hl : (z0.getD m 0 == 10) = false) :
    Calls Yba.prog 3 #[.slice (some ⟨b0, off0, none⟩) (m + 1) cap0] w fun e w' => e = .returned (.bool true) ∧ Below w.heap.size w w' := by
  have q22 : ∀ (w : World) (a : Option Addr) (n c n' c' : Nat), (binOp .eql 22 (.slice a n c) (.slice none n' c')).run Yba.prog w = .ok (.bool a.isNone) w := fun w a n c n' c' => Lib.run_eql_slice_nil w _ _ a n c n' c' Yba.underlying22
  obtain ⟨i5, hi5, _⟩ := info_parts info5
  have qptr : ∀ (w : World) (a : Addr), (binOp .neq 24 (.pointer (some a)) (.pointer (some a))).run Yba.prog w = .ok (.bool false) w := fun w a => run_neq_ptr_same w a Yba.underlying24 hi5
  clear hi5
  have hle : (m : Int) + 1 ≤ 4096 := by omega
  have hd : decide ((4096 : Int) < (m : Int) + 1) = false := decide_eq_false (by omega)
  obtain ⟨zl, hzl⟩ : ∃ zl, zl = z0.getD m 0 := ⟨_, rfl⟩
  rw [← hzl] at hl
  have HL : Hid (zl = z0.getD m 0) := hzl
  clear hzl
  go_enter Yba.func3, Yba.ntmps3
  go_wp2_with fail
  refine (copy_some ⟨b0, off0, none⟩ (m + 1) cap0 z0 w hlen hz (fun i hi => by rw [add_plain]; exact hsrc i hi) (fun _ => hb0)).mono ?_
  rintro e w1 ⟨rfl, hb1, hdst⟩
  have HS : Hid (∀ i, i < m + 1 → w1.cell? ⟨b0, off0 + i, none⟩ = some (.int .u8 (z0.getD i 0))) := fun i hi => by rw [hb1.cell hb0]; exact hsrc i hi
  have HDD : Hid (∀ i, i < m + 1 → w1.cell? ⟨w.heap.size, i, none⟩ = some (.int .u8 (z0.getD i 0))) := hdst
  have hlast : w1.cell? ⟨w.heap.size, m, none⟩ = some (.int .u8 zl) := by rw [hdst _ (by omega), HL.out]
  clear hsrc hdst
  go_wp2_with fail
  refine (le_keep w.heap.size 0 (m + 1) (m + 1) zl w1 (by omega) (by omega) hl (by simpa using hlast)).mono ?_
  rintro e w2 ⟨rfl, rfl⟩
  go_wp2_with fail
  go_loopw [6] (fun i wr => ∃ k nq : Nat, k ≤ m + 1 ∧ i = .int .i64 k ∧ wr = w2.drewN nq) (fun i _ => m + 1 - (intOf i).toNat)
  case atStart => exact ⟨0, 0, Nat.zero_le _, rfl, rfl⟩
  case round =>
    obtain ⟨k, nq, hk, rfl, rfl⟩ := hrel
    by_cases hlt : k < m + 1
    · have c1 := HS.out k (by omega)
      have c2 := HDD.out k (by omega)
      have hkn1 : (k : Int) < (m : Int) + 1 := by omega
      go_wp2
      go_quiet (fail)
      go_wp2
      go_roundw
      case rel => exact ⟨k + 1, _, by omega, by go_num, rfl⟩
      case measure => simp [intOf]; omega
    · by_cases hm0 : 0 < m + 1
      · have hge0 : ¬ ((k : Int) < (m : Int) + 1) := by omega
        clear hlt hk
        have hm2 : (0 : Int) < (m : Int) + 1 := by omega
        go_wp2
        go_quiet (fail)
        go_wp2_with fail
        clear hlast hge0 hm0 hm2
        go_loopw [7] (fun i wr => ∃ k nq : Nat, k ≤ m + 1 ∧ i = .int .i64 k ∧ wr = w2.drewN nq) (fun i _ => m + 1 - (intOf i).toNat)
        case atStart => exact ⟨0, _, Nat.zero_le _, rfl, drewN_add w2 _ _⟩
        case round =>
          obtain ⟨k, nq, hk, rfl, rfl⟩ := hrel
          by_cases hlt : k < m + 1
          · have c1 := HS.out k (by omega)
            have c2 := HDD.out k (by omega)
            have hkn1 : (k : Int) < (m : Int) + 1 := by omega
            go_wp2
            go_quiet (fail)
            go_wp2
            go_roundw
            case rel => exact ⟨k + 1, _, by omega, by go_num, rfl⟩
            case measure => simp [intOf]; omega
          · have hge : ¬ ((k : Int) < (m : Int) + 1) := by omega
            clear hlt hk
            go_wp2
            go_ret
            exact ⟨rfl, below_drewN hb1 _⟩
      · exact absurd hm0 (by omega)


set_option maxHeartbeats 400000 in
theorem strip_empty (ad : Addr) (cap0 : Nat) (w : World) :
    Calls Yba.prog 3 #[.slice (some ad) 0 cap0] w fun e w' => e = .returned (.bool true) ∧ Below w.heap.size w w' := by
  have q22 : ∀ (w : World) (a : Option Addr) (n c n' c' : Nat), (binOp .eql 22 (.slice a n c) (.slice none n' c')).run Yba.prog w = .ok (.bool a.isNone) w := fun w a n c n' c' => Lib.run_eql_slice_nil w _ _ a n c n' c' Yba.underlying22
  go_enter Yba.func3, Yba.ntmps3
  go_wp2_with fail
  refine (copy_some ad 0 cap0 [] w (Nat.zero_le _) (Nat.zero_le _) (fun i hi => absurd hi (Nat.not_lt_zero _)) (fun h => absurd h (Nat.lt_irrefl _))).mono ?_
  rintro e w1 ⟨rfl, hb1, _⟩
  go_wp2_with fail
  refine (le_empty (some ⟨w.heap.size, 0, none⟩) 0 w1).mono ?_
  rintro e w2 ⟨rfl, rfl⟩
  go_wp2_with fail
  refine wp_loop_rounds 1 ?_; rw [rounds_succ]
  go_wp2
  go_quiet (fail)
  go_wp2_with fail
  refine wp_loop_rounds 1 ?_; rw [rounds_succ]
  go_wp2
  go_ret
  exact ⟨rfl, below_drewN hb1 _⟩

theorem walk (a0 : Option Addr) (len0 cap0 : Nat) (z0 : List Int) (w : World) (w0 : IsRow .u8 w a0 len0 cap0 z0) :
    Calls Yba.prog 3 #[.slice a0 len0 cap0] w fun e w' => e = .returned (.bool true) ∧ Below w.heap.size w w' := by
  by_cases hlen : len0 ≤ 4096
  · obtain ⟨hlz, hsrc⟩ := row_src w0
    by_cases h0 : 0 < len0
    · obtain ⟨b, off, rfl, hb, hc⟩ := hsrc 0 h0
      obtain ⟨m, rfl⟩ : ∃ m, len0 = m + 1 := ⟨len0 - 1, by omega⟩
      by_cases hl : z0.getD m 0 = 10
      · exact strip_cut b off m cap0 z0 w hlen hlz hc hb hl
      · exact strip_keep b off m cap0 z0 w hlen hlz hc hb (beq_eq_false_iff_ne.2 hl)
    · obtain rfl : len0 = 0 := by omega
      rcases w0 with ⟨rfl, _, rfl, _⟩ | ⟨x, rfl, _⟩
      · exact strip_nil w
      · exact strip_empty x cap0 w
  · have hgt : (4096 : Int) < (len0 : Int) := by omega
    go_enter Yba.func3, Yba.ntmps3
    go_wp2
    go_ret
    exact ⟨rfl, Below.refl _ _⟩

/-! ### THE ROW's STEP: WRITTEN OUT: LEAVE IT -/
set_option maxRecDepth 100000 in
theorem lifted (os : Os) (started : os.Started) (H : Type) (enc : TypeId × Value → H) :
    ReturnsInHanded {} Yba.checked os 3 .any (Rows.lawS2986BStripSpec.pre6 enc Yba.prog Yba.f3 Rows.lawS2986BStripRow.domain false) (Rows.lawS2986BStripSpec.post enc Yba.prog Yba.f3 false true false false) := by
  refine returnsInHanded_of_change (C := Yba.checked) own started (by kernel_rfl) Yba.func3
    (ChangeSpec.witness6 (enc := enc) (C := Yba.checked) false ⟨#[], #[.slice none 0 0], []⟩ 8 (by kernel_rfl) (by kernel_rfl) (by kernel_rfl) (by kernel_rfl)) ?_
  intro W base args ds gs before hval0 hW hcnd _
  have hval : ∀ (j : Nat) t v, Yba.f3.params[j]? = some t → args[j]? = some v → Value.okWide Yba.prog W .any base t v := hval0
  have hW' := hW
  obtain ⟨p, q, hA0, hV, rfl, hfz, hnd⟩ := hW
  have hA : DataW.TrodAll enc Yba.prog W 0 (fun _ => true) true Yba.f3.params.toList args.toList ds p := hA0
  rw [Yba.params3] at hA hval
  obtain ⟨v0, vs0, d0, ds0, p0, q0, hargs, rfl, rfl, h0, r0⟩ := trodAll_cons hA
  obtain ⟨rfl, rfl, rfl⟩ := trodAll_nil r0
  obtain rfl : args = #[v0] := by cases args; simp_all
  obtain ⟨rfl, rfl⟩ := trodVars_none hV
  obtain ⟨a0, len0, cap0, rfl⟩ := okWide_slice Yba.underlying22 (hval 0 22 v0 rfl rfl)
  have k0 := h0
  have lt0 : ∀ x ∈ p0, x.block < W.heap.size := by obtain ⟨m, hm⟩ := k0; exact DataW.trod_lt m _ _ _ hm
  obtain ⟨z0, w0⟩ : ∃ zs, IsRow .u8 W a0 len0 cap0 zs := by
    obtain ⟨fuel, hf⟩ := h0
    rcases open_ints Yba.underlying22 Yba.underlying5 (by kernel_rfl) hf with ⟨hcs, _⟩ | ⟨x, l, c, zs, hcs, _, hl, hm, hz, _, hcell, hwz⟩
    · simp [Value.cells] at hcs
      obtain ⟨rfl, rfl, rfl⟩ := hcs
      exact ⟨[], .inl ⟨rfl, rfl, rfl, rfl⟩⟩
    · simp [Value.cells] at hcs
      obtain ⟨rfl, rfl, rfl⟩ := hcs
      exact ⟨zs, .inr ⟨_, rfl, hl, hm, by simpa using hz, hcell, hwz⟩⟩
  clear hA0 hval0
  refine (walk a0 len0 cap0 z0 W w0).mono fun e W' ⟨he, bel⟩ => ?_
  subst he
  exact ⟨_, rfl, _, _, _, [], _, [], hW', trodAll_mk1 (shut_bool Yba.underlying4 _), (trodAll_cons_mk (Below.trod laidOut (by kernel_rfl) (of_decide_eq_true (by kernel_rfl)) k0 bel lt0) trodAll_mk0), rfl, bel.frame _, fun h => by cases h⟩

theorem over : Rows.lawS2986BStripRow.holds Yba.pinned (OpenSpec.ofChange Rows.lawS2986BStripSpec) :=
  OpenClaim.holds_of_wide 3 Yba.f3 rfl rfl rfl rfl rfl rfl rfl ⟨rfl, rfl, rfl, rfl, rfl⟩ rfl rfl rfl rfl rfl (by kernel_rfl) Yba.func3 (by kernel_rfl)
    (of_decide_eq_true (by kernel_rfl)) (by unfold Func.isWrapper; first | (rw [if_pos (by decide +kernel)]; kernel_rfl) | (rw [if_neg (by decide +kernel)]; exact ⟨rfl, rfl⟩))
    (fun os started H enc _ => lifted os started H enc)

/-- ████ THE STATEMENT ████ -/
theorem proved : Rows.LawS2986BStripSaid := over
#print axioms proved
end Go.Proofs.Ybulkbiuw.lawS2986BStrip
