/-
  CONTRACTS: (messageSet).proposal (10), votable (13), refuse (23); slices.Contains (12), Index (22).
-/
import Derived.Test.YbulkbivkChosen
namespace Go.Proofs.Ybulkbivk
open Go.RowKit
attribute [local go_sem ↓] Go.wp_at_zero Go.wp_at_succ
set_option linter.unusedVariables false

theorem toList_inj {a b : ByteArray} (h : a.toList = b.toList) : a = b := by rw [Lib.toList_data, Lib.toList_data] at h; exact bytes_ext h

/-- The first 2a of the ballot. -/
def prop1 (L : List Msg) (b : Int) : Option Msg := L.find? fun m => decide (m.kind = 3 ∧ m.bal = b)

theorem prop1_some {L : List Msg} {b : Int} {lo hi : Nat} {m : Msg} (h : Stretch L (atKB 3 b) lo hi) (hl : lo < hi) (hm : L[lo]? = some m) : prop1 L b = some m := by
  obtain ⟨h1, h2, h3, h4, h5⟩ := h
  obtain ⟨hi', rfl⟩ := List.getElem?_eq_some_iff.1 hm
  unfold prop1
  rw [List.find?_eq_some_iff_getElem]
  refine ⟨decide_eq_true ((atKB_zero _ _ _).1 (h4 lo _ (Nat.le_refl _) hl hm)), lo, hi', rfl, fun j hj => ?_⟩
  have := h3 j _ hj (List.getElem?_eq_getElem (by omega))
  simp only [Bool.not_eq_true', decide_eq_false_iff_not]
  intro hc
  rw [(atKB_zero _ _ _).2 hc] at this
  omega

theorem prop1_none {L : List Msg} {b : Int} {lo hi : Nat} (h : Stretch L (atKB 3 b) lo hi) (hl : ¬ lo < hi) : prop1 L b = none := by
  obtain ⟨h1, h2, h3, h4, h5⟩ := h
  unfold prop1
  rw [List.find?_eq_none]
  intro m hm hc
  obtain ⟨j, hj, rfl⟩ := List.mem_iff_getElem.1 hm
  have hz := (atKB_zero _ _ _).2 (of_decide_eq_true hc)
  by_cases hjl : j < lo
  · have := h3 j _ hjl (List.getElem?_eq_getElem hj); omega
  · have := h5 j _ (by omega) (List.getElem?_eq_getElem hj); omega

def PropPost (L : List Msg) (b : Int) (w : World) (e : Ending) (w' : World) : Prop :=
  Below w.heap.size w w' ∧ ((∃ m, prop1 L b = some m ∧ e = .returned (.tuple #[.string m.val, .bool true])) ∨ (prop1 L b = none ∧ e = .returned (.tuple #[.string ⟨#[]⟩, .bool false])))

set_option maxHeartbeats 2000000 in
set_option maxRecDepth 100000 in
theorem proposal_calls (base : Nat) (v : Value) (L : List Msg) (b : Int) (w : World) (hn : L.length ≤ 4096) (hS : SortedM L) (hown : w.ownsRow base 33 5 v L.length (cellsOf L)) :
    Calls Yba.prog 10 #[v, .int .i64 b] w (PropPost L b w) := by
  obtain ⟨a, cap, g, rfl, hag, hM, hlc, hcm, _, _⟩ := own_msgs hown
  have CB : Hid (∀ W, Below w.heap.size w W → Calls Yba.prog 21 #[.slice a L.length cap, .int .i64 3, .int .i64 b] W (BalPost L (atKB 3 b) g L.length W)) := fun W hW =>
    ballot_calls L 3 b a g L.length cap W hn (fun j mj hj i u hu => cell_later hW (hM j mj hj i u hu)) rfl hlc hcm hag (fun x y mx my hxy hx hy => atKB_mono hS 3 b x y mx my hxy hx hy)
  have HM : Hid (HasMsgs w g 0 L) := hM
  have HR : Hid (∀ lo hi, Stretch L (atKB 3 b) lo hi → (lo < hi → ∀ m, L[lo]? = some m → prop1 L b = some m) ∧ (¬ lo < hi → prop1 L b = none)) := fun lo hi h => ⟨fun hl m hm => prop1_some h hl hm, fun hl => prop1_none h hl⟩
  clear hM hown hS hag
  generalize atKB 3 b = f at CB HR ⊢
  obtain ⟨n, hnn⟩ : ∃ n, n = L.length := ⟨_, rfl⟩
  go_enter Yba.func10, Yba.ntmps10
  go_wp2_with fail
  refine Calls.mono (CB.out _ (Below.refl _ w)) ?_
  rintro e w' ⟨lo, hi, a', rfl, hlh, hhn, ha', s1, s2, s3, hb1⟩
  obtain ⟨r1, r2⟩ := HR.out lo hi ⟨hlh, hhn, s1, s2, s3⟩
  have hl4 : hi - lo ≤ 4096 := by omega
  clear CB HR s1 s2 s3
  by_cases hl : lo < hi
  · obtain ⟨m, hm⟩ : ∃ m, L[lo]? = some m := ⟨_, List.getElem?_eq_getElem (by omega)⟩
    have hp := r1 hl m hm
    obtain rfl := ha' hl
    obtain ⟨c0, c1, c2, c3, c4⟩ := HM.out.five hm
    rw [Nat.zero_add] at c4
    have d4 := cell_later hb1 c4
    have hpos : (0 : Int) < ((hi - lo : Nat) : Int) := by omega
    have HP : Hid (prop1 L b = some m) := hp
    have hb2 : Hid (Below w.heap.size w w') := hb1
    generalize hi - lo = len at *
    clear c0 c1 c2 c3 c4 r1 r2 hp hm hl hlh hhn hb1
    go_wp2
    go_ret2
    exact ⟨hb2.out, .inl ⟨m, HP.out, rfl⟩⟩
  · have hp := r2 hl
    have HP : Hid (prop1 L b = none) := hp
    have hb2 : Hid (Below w.heap.size w w') := hb1
    have hz : hi - lo = 0 := by omega
    rw [hz]
    clear r1 r2 hp hl hlh hhn ha' hb1
    go_wp2
    go_ret2
    exact ⟨hb2.out, .inr ⟨HP.out, rfl⟩⟩

set_option maxHeartbeats 2000000 in
set_option maxRecDepth 100000 in
theorem index_calls (ad : Option Addr) (g len cap : Nat) (X : List ByteArray) (s : ByteArray) (w : World) (hlen : X.length = len) (hn : len ≤ 4096) (ha : 0 < len → ad = some ⟨g, 0, none⟩) (hc : ∀ (j : Nat) (x : ByteArray), X[j]? = some x → w.cell? ⟨g, j, none⟩ = some (.string x)) :
    Calls Yba.prog 22 #[.slice ad len cap, .string s] w fun e w' => (∃ i : Int, e = .returned (.int .i64 i) ∧ (0 ≤ i ↔ s ∈ X)) ∧ w' = w := by
  have HC : Hid (∀ (j : Nat) (x : ByteArray), X[j]? = some x → w.cell? ⟨g, j, none⟩ = some (.string x)) := hc
  have HL : Hid (X.length = len) := hlen
  have HA : Hid (0 < len → ad = some ⟨g, 0, none⟩) := ha
  clear hc hlen ha
  go_enter Yba.func22, Yba.ntmps22
  go_wp2
  go_loopw [8] (fun i wr => ∃ k : Nat, k ≤ len ∧ i = .int .i64 k ∧ wr = w ∧ Hid (∀ (j : Nat) (x : ByteArray), j < k → X[j]? = some x → s ≠ x)) (fun i _ => len - (intOf i).toNat)
  case atStart => exact ⟨0, Nat.zero_le _, rfl, rfl, fun j x hj => absurd hj (Nat.not_lt_zero _)⟩
  case round =>
    obtain ⟨k, hk, rfl, rfl, HK⟩ := hrel
    by_cases hlt : k < len
    · have hlen := HL.out
      obtain ⟨x, hx⟩ : ∃ x, X[k]? = some x := ⟨_, List.getElem?_eq_getElem (by omega)⟩
      obtain rfl := HA.out (by omega)
      have d := HC.out k x hx
      have hkl : (k : Int) < (len : Int) := by omega
      have HX : Hid (X[k]? = some x) := hx
      clear hx hlen
      by_cases hsx : s = x
      · have hcmp : (s.toList == x.toList) = true := by rw [hsx]; exact beq_self_eq_true _
        have HS : Hid (s = x) := hsx
        clear hsx
        go_wp2
        go_ret
        exact ⟨⟨k, rfl, iff_of_true (by omega) (by rw [HS.out]; exact List.mem_of_getElem? HX.out)⟩, rfl⟩
      · have hcmp : (s.toList == x.toList) = false := by rw [beq_eq_false_iff_ne]; exact fun h => hsx (toList_inj h)
        have HS : Hid (¬ s = x) := hsx
        clear hsx
        go_wp2
        go_roundw
        case rel =>
          refine ⟨k + 1, by omega, by go_num, by trivial, fun j y hj hy => ?_⟩
          by_cases hjk : j = k
          · subst hjk
            have := HX.out
            rw [hy] at this
            cases this
            exact HS.out
          · exact HK.out j y (by omega) hy
        case measure => simp [intOf]; omega
    · obtain rfl : k = len := by omega
      have HN : Hid (s ∉ X) := fun hm => by
        obtain ⟨j, hj, hjx⟩ := List.mem_iff_getElem.1 hm
        exact HK.out j _ (by have := HL.out; omega) (List.getElem?_eq_getElem hj) hjx.symm
      go_wp2
      go_ret
      exact ⟨⟨-1, rfl, iff_of_false (by omega) HN.out⟩, rfl⟩

def ConPost (X : List ByteArray) (s : ByteArray) (w : World) (e : Ending) (w' : World) : Prop := ∃ b : Bool, e = .returned (.bool b) ∧ (b = true ↔ s ∈ X) ∧ w' = w

set_option maxHeartbeats 2000000 in
theorem contains_calls (ad : Option Addr) (g len cap : Nat) (X : List ByteArray) (s : ByteArray) (w : World) (hlen : X.length = len) (hn : len ≤ 4096) (ha : 0 < len → ad = some ⟨g, 0, none⟩) (hc : ∀ (j : Nat) (x : ByteArray), X[j]? = some x → w.cell? ⟨g, j, none⟩ = some (.string x)) :
    Calls Yba.prog 12 #[.slice ad len cap, .string s] w (ConPost X s w) := by
  have C := index_calls ad g len cap X s w hlen hn ha hc
  clear hlen ha hc
  go_enter Yba.func12, Yba.ntmps12
  go_wp2_with fail
  refine C.mono ?_
  rintro e w' ⟨⟨i, rfl, hi⟩, rfl⟩
  have HI : Hid (0 ≤ i ↔ s ∈ X) := hi
  clear hi C
  go_wp2
  go_ret
  exact ⟨decide (0 ≤ i), rfl, by rw [decide_eq_true_eq]; exact HI.out, rfl⟩
def RefPost (w : World) (e : Ending) (w' : World) : Prop := ∃ p, e = .returned (.iface 80 (.pointer p)) ∧ Below w.heap.size w w'
set_option maxHeartbeats 2000000 in
set_option maxRecDepth 100000 in
theorem refuse_calls (s : ByteArray) (g : Nat) (b : Int) (w : World) (hx : w.cell? ⟨g, 0, none⟩ = some (.iface 3 (.int .i64 b))) :
    Calls Yba.prog 23 #[.string s, .slice (some ⟨g, 0, none⟩) 1 1] w (RefPost w) := by
  have hx' := cell_later ((Below.refl _ w).alloc (Nat.le_refl _) (.cells #[.string s, .slice none 0 0, .nilIface, .nilIface, .nilIface, .nilIface] 83)) hx
  go_enter Yba.func23, Yba.ntmps23
  go_wp2
  go_ret
  exact ⟨_, rfl, (Below.refl _ w).alloc (Nat.le_refl _) _⟩

def VotPost (L : List Msg) (b : Int) (w : World) (e : Ending) (w' : World) : Prop :=
  Below w.heap.size w w' ∧ ((∃ m, prop1 L b = some m ∧ e = .returned (.tuple #[.string m.val, .nilIface])) ∨ (prop1 L b = none ∧ ∃ p, e = .returned (.tuple #[.string ⟨#[]⟩, .iface 80 (.pointer p)])))

set_option maxHeartbeats 2000000 in
set_option maxRecDepth 100000 in
theorem votable_calls (base : Nat) (v : Value) (L : List Msg) (b : Int) (w : World) (hn : L.length ≤ 4096) (hS : SortedM L) (hown : w.ownsRow base 33 5 v L.length (cellsOf L)) :
    Calls Yba.prog 13 #[v, .int .i64 b] w (VotPost L b w) := by
  have CP : Hid (Calls Yba.prog 10 #[v, .int .i64 b] w (PropPost L b w)) := proposal_calls base v L b w hn hS hown
  obtain ⟨a, cap, rfl⟩ := own_slice hown
  have CR : Hid (∀ (s : ByteArray) (g : Nat) (W : World), W.cell? ⟨g, 0, none⟩ = some (.iface 3 (.int .i64 b)) → Calls Yba.prog 23 #[.string s, .slice (some ⟨g, 0, none⟩) 1 1] W (RefPost W)) := fun s g W h => refuse_calls s g b W h
  clear hS hown
  go_enter Yba.func13, Yba.ntmps13
  go_wp2_with fail
  refine Calls.mono CP.out ?_
  rintro e w1 ⟨hb, ⟨m, hm, rfl⟩ | ⟨hm, rfl⟩⟩
  · have HB : Hid (Below w.heap.size w w1) := hb
    have HM : Hid (prop1 L b = some m) := hm
    clear hb hm CP CR
    go_wp2
    go_ret2
    exact ⟨HB.out, .inl ⟨m, HM.out, rfl⟩⟩
  · have HB : Hid (Below w.heap.size w w1) := hb
    have HM : Hid (prop1 L b = none) := hm
    clear hb hm CP
    go_wp2_with fail
    refine Calls.mono (CR.out _ _ _ (by rw [World.cell?_alloc_new]; rfl)) ?_
    rintro e w2 ⟨p, rfl, hb2⟩
    have HF : Hid (Below w.heap.size w w2) := (HB.out.alloc HB.out.size _).trans (hb2.mono (by have := HB.out.size; simp; omega))
    clear hb2 CR
    go_wp2
    go_ret2
    exact ⟨HF.out, .inr ⟨HM.out, p, rfl⟩⟩
end Go.Proofs.Ybulkbivk
