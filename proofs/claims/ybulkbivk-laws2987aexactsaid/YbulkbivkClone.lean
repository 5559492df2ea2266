/-
  CONTRACTS: slices.Clone (9), slices.Equal (11) at messageSet.
-/
import Derived.Test.YbulkbivkStA
import Derived.ArgAppend
import Derived.Lib.SliceRun
import Derived.Laws.StructEq
namespace Go.Proofs.Ybulkbivk
open Go.RowKit
attribute [local go_sem ↓] Go.wp_at_zero Go.wp_at_succ
set_option linter.unusedVariables false

theorem neq_msg (m : Msg) (w : World) : (binOp .neq 33 (.agg m.cells.toArray) (.agg m.cells.toArray)).run Yba.prog w = .ok (.bool false) w := by
  have u30 := Yba.underlying30
  have u3 := Yba.underlying3
  have u9 := Yba.underlying9
  have u31 := Yba.underlying31
  have hS : Yba.prog.underlying 33 = some (.struct (Yba.prog.fieldsOf 33)) := by kernel_rfl
  have hp : Yba.prog.stoodInHeld 33 = false := by kernel_rfl
  simp only [Msg.cells]
  rw [run_neq_struct, show (10000 : Nat) = 9999 + 1 from rfl, run_equalIn_agg w 9999 33 _ _ hS hp]
  simp only [Program.fieldsOf, Yba.underlying33]
  go_simp

def ClPost (L : List Msg) (w : World) (e : Ending) (w' : World) : Prop := ∃ v' base, e = .returned v' ∧ w'.ownsRow base 33 5 v' L.length (cellsOf L) ∧ Below w.heap.size w w'

set_option maxHeartbeats 1000000 in
set_option maxRecDepth 100000 in
theorem clone_calls (base : Nat) (v : Value) (L : List Msg) (w : World) (hn : L.length ≤ 4096) (hown : w.ownsRow base 33 5 v L.length (cellsOf L)) (hnil : L = [] → v = .slice none 0 0) :
    Calls Yba.prog 9 #[v] w (ClPost L w) := by
  have q25 : ∀ (w : World) (a : Option Addr) (n c n' c' : Nat), (binOp .eql 25 (.slice a n c) (.slice none n' c')).run Yba.prog w = .ok (.bool a.isNone) w := fun w a n c n' c' => Lib.run_eql_slice_nil w _ _ a n c n' c' Yba.underlying25
  by_cases hL : L = []
  · subst hL
    obtain rfl := hnil rfl
    go_enter Yba.func9, Yba.ntmps9
    go_wp2
    go_ret
    exact ⟨_, 0, rfl, World.ownsRow_nil _ _ _ _, Below.refl _ _⟩
  · have hpos := List.length_pos_iff.2 hL
    obtain ⟨a, cap, g, rfl, hag, hM, hlc, hcm, _, _⟩ := own_msgs hown
    obtain rfl := hag hpos
    obtain ⟨i33, p1, p2, p3, p4⟩ := info_parts info33
    have hcells : ∀ j u, (cellsOf L)[j]? = some u → w.cell? ⟨g, j, none⟩ = some u := fun j u hj => by
      rcases hown.2 with ⟨hv, h0⟩ | ⟨g', cap', cur, hv, _, hgg, _, _, _, h4⟩
      · cases hv
      · cases hv
        rw [← h4, List.getElem?_take] at hj
        split at hj
        · have hj' : cur[j]? = some u := by simpa using hj
          simp [World.cell?, hgg, hj']
        · cases hj
    have h1 : ∀ u ∈ cellsOf L, u.oneCell' = true := fun u hu => by
      simp only [cellsOf, List.mem_flatMap] at hu
      obtain ⟨m, _, hm⟩ := hu
      exact m.cells_one u hm
    have hlen := cellsOf_length L
    have HC : Hid (∀ j u, (cellsOf L)[j]? = some u → (w.alloc (.cells #[] 33)).cell? ((⟨g, 0, none⟩ : Addr).add j) = some u) := fun j u hj => by
      rw [Addr.add_lit, Nat.zero_add]; exact cell_later ((Below.refl _ w).alloc (Nat.le_refl _) _) (hcells j u hj)
    have H1 : Hid (∀ u ∈ cellsOf L, u.oneCell' = true) := h1
    have HN : Hid (L.length ≤ 4096) := hn
    have HP : Hid (0 < L.length) := hpos
    have HLn : Hid ((cellsOf L).length = L.length * 5) := hlen
    clear hcells h1 hn hpos hlen hM hown hnil hL
    go_enter Yba.func9, Yba.ntmps9
    go_wp2_with (at_builtin; refine wpList_append_grows _ rfl (.tmp 5) (.tmp 6) 25 rfl 33 i33 _ 5 48 Yba.underlying25 p1 p2 p3 p4 rfl (by decide) (some ⟨w.heap.size, 0, none⟩) 0 0 [] rfl (fun h => by cases h) rfl (fun b hb j u hu => by simp at hu) ⟨g, 0, none⟩ L.length cap (cellsOf L) rfl HLn.out HC.out H1.out ?_ ?_ ?_ ?_)
    · have := HP.out; omega
    · have := HN.out; unfold maxLen; omega
    · have := HN.out; omega
    intro v' w' ho hg
    have ho' : w'.ownsRow (w.alloc (.cells #[] 33)).heap.size 33 5 v' L.length (cellsOf L) := by simpa using ho
    have HO : Hid (w'.ownsRow (w.alloc (.cells #[] 33)).heap.size 33 5 v' L.length (cellsOf L)) := ho'
    have HB : Hid (Below w.heap.size w w') := ((Below.refl _ w).alloc (Nat.le_refl _) _).grown hg (by simp) (fun k hk => by cases hk)
    clear ho ho' hg p1 p2 p3 p4
    go_wp2
    go_ret
    exact ⟨_, _, rfl, HO.out, HB.out⟩

set_option maxHeartbeats 2000000 in
set_option maxRecDepth 100000 in
theorem equal_calls (b1 b2 : Nat) (v1 v2 : Value) (L : List Msg) (w : World) (hn : L.length ≤ 4096) (h1 : w.ownsRow b1 33 5 v1 L.length (cellsOf L)) (h2 : w.ownsRow b2 33 5 v2 L.length (cellsOf L)) :
    Calls Yba.prog 11 #[v1, v2] w fun e w' => e = .returned (.bool true) ∧ Below w.heap.size w w' := by
  obtain ⟨a1, cap1, g1, rfl, ha1, hM1, hlc1, hcm1, _, _⟩ := own_msgs h1
  obtain ⟨a2, cap2, g2, rfl, ha2, hM2, hlc2, hcm2, _, _⟩ := own_msgs h2
  have HM1 : Hid (HasMsgs w g1 0 L) := hM1
  have HM2 : Hid (HasMsgs w g2 0 L) := hM2
  have HA : Hid (0 < L.length → a1 = some ⟨g1, 0, none⟩ ∧ a2 = some ⟨g2, 0, none⟩) := fun h => ⟨ha1 h, ha2 h⟩
  have hq := neq_msg
  simp only [Msg.cells] at hq
  have HQ : Hid _ := hq
  clear hM1 hM2 ha1 ha2 h1 h2 hq
  obtain ⟨n, hnn⟩ : ∃ n, n = L.length := ⟨_, rfl⟩
  have HNN : Hid (n = L.length) := hnn
  rw [← hnn] at hn hlc1 hlc2 ⊢
  clear hnn
  have hguard : Yba.prog.eqGuardType Yba.prog.depth 33 = false := by kernel_rfl
  go_enter Yba.func11, Yba.ntmps11
  go_wp2_with fail
  go_loopw [13] (fun i wr => ∃ k : Nat, k ≤ n ∧ i = .int .i64 k ∧ Below w.heap.size w wr) (fun i _ => n - (intOf i).toNat)
  case atStart => exact ⟨0, Nat.zero_le _, rfl, Below.refl _ _⟩
  case round =>
    obtain ⟨k, hk, rfl, hbr⟩ := hrel
    by_cases hlt : k < n
    · have hh := HNN.out
      obtain ⟨m, hm⟩ : ∃ m, L[k]? = some m := ⟨_, List.getElem?_eq_getElem (by omega)⟩
      obtain ⟨rfl, rfl⟩ := HA.out (by omega)
      obtain ⟨c0, c1, c2, c3, c4⟩ := HM1.out.five hm
      obtain ⟨d0, d1, d2, d3, d4⟩ := HM2.out.five hm
      rw [Nat.zero_add] at c0 c1 c2 c3 c4 d0 d1 d2 d3 d4
      replace c0 := cell_later hbr c0
      replace c1 := cell_later hbr c1
      replace c2 := cell_later hbr c2
      replace c3 := cell_later hbr c3
      replace c4 := cell_later hbr c4
      replace d0 := cell_later hbr d0
      replace d1 := cell_later hbr d1
      replace d2 := cell_later hbr d2
      replace d3 := cell_later hbr d3
      replace d4 := cell_later hbr d4
      have hqm := fun W => HQ.out m W
      have hkl : (k : Int) < (n : Int) := by omega
      clear hm hh
      go_wp2_with fail
      go_quiet (fail)
      go_wp2
      go_roundw
      case rel => exact ⟨k + 1, by omega, by go_num, hbr.trans (below_drewN (Below.refl _ wr) _ |>.mono hbr.size)⟩
      case measure => simp [intOf]; omega
    · obtain rfl : k = n := by omega
      have hge : ¬ ((k : Int) < (k : Int)) := by omega
      go_wp2
      go_ret
      exact ⟨rfl, hbr⟩
end Go.Proofs.Ybulkbivk
