/-
  CONTRACTS: the closures of (messageSet).ballot; sort.Search over them.
-/
import Derived.Test.YbulkbivkCmp
import Derived.Deep.LoopGhost
namespace Go.Proofs.Ybulkbivk
open Go.RowKit
attribute [local go_sem ↓] Go.wp_at_zero Go.wp_at_succ

theorem two_cells (w : World) (g : Nat) (t : TypeId) (a b : Int) (hg : g = w.heap.size) :
    ∀ j, j < 2 → ((w.alloc (.cells #[.int .i64 a, .int .i64 b] t)).drew).cell? ⟨g, 0 + j, none⟩ = some (.int .i64 ([a, b].getD j 0)) := by
  subst hg
  intro j hj
  show (w.alloc _).cell? _ = _
  rw [Nat.zero_add, World.cell?_alloc_new]
  match j, hj with
  | 0, _ => rfl
  | 1, _ => rfl

set_option maxRecDepth 100000 in
set_option maxHeartbeats 4000000 in
theorem at_calls (m : Msg) (k b : Int) (pk pb : Nat) (w : World) (hk : w.cell? ⟨pk, 0, none⟩ = some (.int .i64 k)) (hb : w.cell? ⟨pb, 0, none⟩ = some (.int .i64 b)) :
    Calls Yba.prog 31 #[.agg m.cells.toArray, .pointer (some ⟨pk, 0, none⟩), .pointer (some ⟨pb, 0, none⟩)] w fun e w' => e = .returned (.int .i64 (atKB k b m)) ∧ Below w.heap.size w w' := by
  obtain ⟨mk, ma, mb, mv, ms⟩ := m
  unfold atKB
  simp only [Msg.cells]
  generalize hx1 : Lib.compareInt mk k = x1
  generalize hx2 : Lib.compareInt mb b = x2
  have c1 : ∀ w, Calls Yba.prog 25 #[.int .i64 mk, .int .i64 k] w fun e w' => e = .returned (.int .i64 x1) ∧ w' = w := fun w => hx1 ▸ compare25 mk k w
  have c2 : ∀ w, Calls Yba.prog 26 #[.int .i64 mb, .int .i64 b] w fun e w' => e = .returned (.int .i64 x2) ∧ w' = w := fun w => hx2 ▸ compare26 mb b w
  clear hx1 hx2
  have C1 : Hid _ := c1
  have C2 : Hid _ := c2
  clear c1 c2
  have n1 := World.new_ne w ⟨pk, 0, none⟩ hk
  have n2 := World.new_ne w ⟨pb, 0, none⟩ hb
  have l1 : pk < w.heap.size := World.block_lt_of_cell? w _ hk
  have l2 : pb < w.heap.size := World.block_lt_of_cell? w _ hb
  go_enter Yba.func31, Yba.ntmps31
  go_wp2_with fail
  go_region_held3 (fun w' => w'.cell? ⟨w.heap.size, 0, none⟩ = some (.int .i64 mk) ∧ w'.cell? ⟨w.heap.size, 2, none⟩ = some (.int .i64 mb) ∧
      w'.cell? ⟨pk, 0, none⟩ = some (.int .i64 k) ∧ w'.cell? ⟨pb, 0, none⟩ = some (.int .i64 b)) (go_keep)
    (first | (go_at_call 25; refine (C1.out _).mono ?_; rintro e w' ⟨rfl, rfl⟩) | (go_at_call 26; refine (C2.out _).mono ?_; rintro e w' ⟨rfl, rfl⟩) | (go_at_call 24; refine (or_any (w.heap.size + 1) 0 2 2 [x1, x2] _ rfl (by omega) ?_).mono ?_; (exact two_cells _ _ _ _ _ (by simp)); rintro e w' ⟨rfl, rfl⟩))
  all_goals go_wp2
  all_goals go_ret
  all_goals exact ⟨rfl, (((Below.refl _ _).alloc (Nat.le_refl _) _).alloc (by simp) _).drew⟩

/-- A row of messages, in block g from cell 'off' on. -/
def HasMsgs (w : World) (g off : Nat) (L : List Msg) : Prop := ∀ j m, L[j]? = some m → ∀ i v, m.cells[i]? = some v → w.cell? ⟨g, off + j * 5 + i, none⟩ = some v

theorem HasMsgs.five {w : World} {g off : Nat} {L : List Msg} (h : HasMsgs w g off L) {j : Nat} {m : Msg} (hj : L[j]? = some m) :
    w.cell? ⟨g, off + j * 5, none⟩ = some (.int .i64 m.kind) ∧ w.cell? ⟨g, off + j * 5 + 1, none⟩ = some (.int .i64 m.acc) ∧ w.cell? ⟨g, off + j * 5 + 2, none⟩ = some (.int .i64 m.bal) ∧
    w.cell? ⟨g, off + j * 5 + 3, none⟩ = some (.int .i64 m.vb) ∧ w.cell? ⟨g, off + j * 5 + 4, none⟩ = some (.string m.val) :=
  ⟨h j m hj 0 _ rfl, h j m hj 1 _ rfl, h j m hj 2 _ rfl, h j m hj 3 _ rfl, h j m hj 4 _ rfl⟩

set_option maxRecDepth 100000 in
set_option maxHeartbeats 4000000 in
theorem ge_calls (L : List Msg) (k b : Int) (pk pb pa pm g n cap j : Nat) (m : Msg) (w : World) (hk : w.cell? ⟨pk, 0, none⟩ = some (.int .i64 k)) (hb : w.cell? ⟨pb, 0, none⟩ = some (.int .i64 b))
    (ha : w.cell? ⟨pa, 0, none⟩ = some (.func (.func 31) #[] #[.pointer (some ⟨pk, 0, none⟩), .pointer (some ⟨pb, 0, none⟩)])) (hm : w.cell? ⟨pm, 0, none⟩ = some (.slice (some ⟨g, 0, none⟩) n cap))
    (hL : HasMsgs w g 0 L) (hn : L.length = n) (hj : L[j]? = some m) :
    Calls Yba.prog 33 #[.int .i64 j, .pointer (some ⟨pa, 0, none⟩), .pointer (some ⟨pm, 0, none⟩)] w fun e w' => e = .returned (.bool (decide (0 ≤ atKB k b m))) ∧ Below w.heap.size w w' := by
  obtain ⟨h0, h1, h2, h3, h4⟩ := hL.five hj
  have hjn : j < n := by rw [← hn]; exact (List.getElem?_eq_some_iff.1 hj).1
  have hji : (j : Int) < (n : Int) := by omega
  have hj0 : (0 : Int) ≤ (j : Int) := by omega
  have C : Hid (∀ W, Below w.heap.size w W → Calls Yba.prog 31 #[.agg m.cells.toArray, .pointer (some ⟨pk, 0, none⟩), .pointer (some ⟨pb, 0, none⟩)] W fun e w' => e = .returned (.int .i64 (atKB k b m)) ∧ Below W.heap.size W w') :=
    fun W hW => at_calls m k b pk pb W ((hW.cell (World.block_lt_of_cell? w _ hk)).trans hk) ((hW.cell (World.block_lt_of_cell? w _ hb)).trans hb)
  clear hk hb hL hn hj
  generalize atKB k b m = r at C ⊢
  obtain ⟨mk, ma, mb, mv, ms⟩ := m
  simp only [Msg.cells, Nat.zero_add] at C h0 h1 h2 h3 h4
  go_enter Yba.func33, Yba.ntmps33
  go_wp2_with fail
  go_region_held3 (fun w' => w'.cell? ⟨pa, 0, none⟩ = some (.func (.func 31) #[] #[.pointer (some ⟨pk, 0, none⟩), .pointer (some ⟨pb, 0, none⟩)]) ∧ w'.cell? ⟨pm, 0, none⟩ = some (.slice (some ⟨g, 0, none⟩) n cap) ∧
      w'.cell? ⟨g, j * 5, none⟩ = some (.int .i64 mk) ∧ w'.cell? ⟨g, j * 5 + 1, none⟩ = some (.int .i64 ma) ∧ w'.cell? ⟨g, j * 5 + 2, none⟩ = some (.int .i64 mb) ∧ w'.cell? ⟨g, j * 5 + 3, none⟩ = some (.int .i64 mv) ∧ w'.cell? ⟨g, j * 5 + 4, none⟩ = some (.string ms)) (first | go_keep | (repeat' apply And.intro) <;> (refine cell_later hbw ?_; simp [*]; done))
    (first | (go_at_call 31; refine (C.out _ ?_).mono ?_; exact below_drewN (Below.refl _ _) 1; rintro e w' ⟨rfl, hbw⟩))
  go_wp2
  go_ret
  exact ⟨rfl, ((Below.refl _ w).drew).trans hbw⟩
set_option maxRecDepth 100000 in
set_option maxHeartbeats 4000000 in
theorem gt_calls (L : List Msg) (k b : Int) (pk pb pa pm pl g n cap lo i j : Nat) (m : Msg) (w : World) (hk : w.cell? ⟨pk, 0, none⟩ = some (.int .i64 k)) (hb : w.cell? ⟨pb, 0, none⟩ = some (.int .i64 b))
    (ha : w.cell? ⟨pa, 0, none⟩ = some (.func (.func 31) #[] #[.pointer (some ⟨pk, 0, none⟩), .pointer (some ⟨pb, 0, none⟩)])) (hm : w.cell? ⟨pm, 0, none⟩ = some (.slice (some ⟨g, 0, none⟩) n cap))
    (hl : w.cell? ⟨pl, 0, none⟩ = some (.int .i64 lo)) (hij : lo + i = j) (hsz : n ≤ 4096) (hL : HasMsgs w g 0 L) (hn : L.length = n) (hj : L[j]? = some m) :
    Calls Yba.prog 34 #[.int .i64 i, .pointer (some ⟨pa, 0, none⟩), .pointer (some ⟨pm, 0, none⟩), .pointer (some ⟨pl, 0, none⟩)] w fun e w' => e = .returned (.bool (decide (0 < atKB k b m))) ∧ Below w.heap.size w w' := by
  obtain ⟨h0, h1, h2, h3, h4⟩ := hL.five hj
  have hjn : j < n := by rw [← hn]; exact (List.getElem?_eq_some_iff.1 hj).1
  have hji : (j : Int) < (n : Int) := by omega
  have hj0 : (0 : Int) ≤ (j : Int) := by omega
  have C : Hid (∀ W, Below w.heap.size w W → Calls Yba.prog 31 #[.agg m.cells.toArray, .pointer (some ⟨pk, 0, none⟩), .pointer (some ⟨pb, 0, none⟩)] W fun e w' => e = .returned (.int .i64 (atKB k b m)) ∧ Below W.heap.size W w') :=
    fun W hW => at_calls m k b pk pb W ((hW.cell (World.block_lt_of_cell? w _ hk)).trans hk) ((hW.cell (World.block_lt_of_cell? w _ hb)).trans hb)
  clear hk hb hL hn hj
  have b1 : (0 : Int) ≤ (lo : Int) := by omega
  have b2 : (0 : Int) ≤ (i : Int) := by omega
  have e0 : IntKind.i64.wrap ((lo : Int) + (i : Int)) = (j : Int) := by rw [← hij]; exact IntWalk.i64_in _ ⟨by omega, by omega⟩
  have HE : Hid (lo + i = j) := hij
  clear hij
  generalize atKB k b m = r at C ⊢
  obtain ⟨mk, ma, mb, mv, ms⟩ := m
  simp only [Msg.cells, Nat.zero_add] at C h0 h1 h2 h3 h4
  go_enter Yba.func34, Yba.ntmps34
  go_wp2_with fail
  go_region_held3 (fun w' => w'.cell? ⟨pa, 0, none⟩ = some (.func (.func 31) #[] #[.pointer (some ⟨pk, 0, none⟩), .pointer (some ⟨pb, 0, none⟩)]) ∧ w'.cell? ⟨pm, 0, none⟩ = some (.slice (some ⟨g, 0, none⟩) n cap) ∧ w'.cell? ⟨pl, 0, none⟩ = some (.int .i64 lo) ∧
      w'.cell? ⟨g, j * 5, none⟩ = some (.int .i64 mk) ∧ w'.cell? ⟨g, j * 5 + 1, none⟩ = some (.int .i64 ma) ∧ w'.cell? ⟨g, j * 5 + 2, none⟩ = some (.int .i64 mb) ∧ w'.cell? ⟨g, j * 5 + 3, none⟩ = some (.int .i64 mv) ∧ w'.cell? ⟨g, j * 5 + 4, none⟩ = some (.string ms)) (first | go_keep | (repeat' apply And.intro) <;> (refine cell_later hbw ?_; simp [*]; done))
    (first | (go_at_call 31; refine (C.out _ ?_).mono ?_; exact below_drewN (Below.refl _ _) 1; rintro e w' ⟨rfl, hbw⟩))
  go_wp2
  go_ret
  exact ⟨rfl, ((Below.refl _ w).drew).trans hbw⟩

set_option maxHeartbeats 2000000 in
set_option maxRecDepth 100000 in
theorem search33 (caps : Array Value) (n : Nat) (p : Nat → Bool) (w : World) (hn : n ≤ 4096)
    (hf : ∀ W j, Below w.heap.size w W → j < n → Calls Yba.prog 33 (#[.int .i64 j] ++ caps) W fun e w' => e = .returned (.bool (p j)) ∧ Below W.heap.size W w')
    (hmono : ∀ a b, a ≤ b → b < n → p a = true → p b = true) :
    Calls Yba.prog 32 #[.int .i64 n, .func (.func 33) #[] caps] w fun e w' => ∃ r : Nat, e = .returned (.int .i64 r) ∧ r ≤ n ∧ (∀ t, t < r → p t = false) ∧ (∀ t, r ≤ t → t < n → p t = true) ∧ Below w.heap.size w w' := by
  have HF : Hid _ := hf
  have M : Hid _ := hmono
  clear hf hmono
  go_enter Yba.func32, Yba.ntmps32
  go_wp2
  go_loopg [5, 6] n (fun kx s5 s6 wr => ∃ (lo hi : Nat), s5 = .int .i64 lo ∧ s6 = .int .i64 hi ∧ lo ≤ hi ∧ hi ≤ n ∧ hi - lo ≤ kx ∧ Below w.heap.size w wr ∧
    Hid ((∀ t, t < lo → p t = false) ∧ (∀ t, hi ≤ t → t < n → p t = true)))
  case atStart => exact ⟨0, n, rfl, rfl, Nat.zero_le _, Nat.le_refl _, by omega, Below.refl _ _, (⟨fun t ht => absurd ht (Nat.not_lt_zero _), fun t h1 h2 => by omega⟩ : (∀ t, t < 0 → p t = false) ∧ (∀ t, n ≤ t → t < n → p t = true))⟩
  case round =>
    obtain ⟨lo, hi, rfl, rfl, hlh, hin, hg, hbe, I⟩ := hrel
    by_cases hlt : lo < hi
    · have hc := HF.out wr ((lo + hi) / 2) hbe (by omega)
      rw [show (((lo + hi) / 2 : Nat) : Int) = ((lo : Int) + (hi : Int)) / 2 by omega] at hc
      cases hp : p ((lo + hi) / 2) <;> rw [hp] at hc
      · have HP : Hid (p ((lo + hi) / 2) = false) := hp
        clear hp
        go_wp2_with (go_at_call 33; refine hc.mono ?_; rintro e w' ⟨rfl, hb1⟩)
        go_roundg (hi - ((lo + hi) / 2 + 1))
        case measure => omega
        case rel =>
          have I2 : Hid ((∀ t, t < (lo + hi) / 2 + 1 → p t = false) ∧ (∀ t, hi ≤ t → t < n → p t = true)) := ⟨fun t ht => (by
            cases h : p t with
            | false => rfl
            | true => have := M.out t ((lo + hi) / 2) (by omega) (by omega) h; rw [HP.out] at this; cases this), I.out.2⟩
          exact ⟨(lo + hi) / 2 + 1, hi, by rw [show ((lo : Int) + (hi : Int)) / 2 + 1 = (((lo + hi) / 2 + 1 : Nat) : Int) by omega], rfl, by omega, hin, Nat.le_refl _, hbe.trans (hb1.mono hbe.size), I2⟩
      · have HP : Hid (p ((lo + hi) / 2) = true) := hp
        clear hp
        go_wp2_with (go_at_call 33; refine hc.mono ?_; rintro e w' ⟨rfl, hb1⟩)
        go_roundg ((lo + hi) / 2 - lo)
        case measure => omega
        case rel =>
          have I2 : Hid ((∀ t, t < lo → p t = false) ∧ (∀ t, (lo + hi) / 2 ≤ t → t < n → p t = true)) := ⟨I.out.1, fun t ht htn => M.out ((lo + hi) / 2) t ht htn HP.out⟩
          exact ⟨lo, (lo + hi) / 2, rfl, by rw [show ((lo : Int) + (hi : Int)) / 2 = (((lo + hi) / 2 : Nat) : Int) by omega], by omega, by omega, Nat.le_refl _, hbe.trans (hb1.mono hbe.size), I2⟩
    · obtain rfl : hi = lo := by omega
      go_wp2
      go_ret
      exact ⟨hi, rfl, hin, I.out.1, I.out.2, hbe⟩

set_option maxHeartbeats 2000000 in
set_option maxRecDepth 100000 in
theorem search34 (caps : Array Value) (n : Nat) (p : Nat → Bool) (w : World) (hn : n ≤ 4096)
    (hf : ∀ W j, Below w.heap.size w W → j < n → Calls Yba.prog 34 (#[.int .i64 j] ++ caps) W fun e w' => e = .returned (.bool (p j)) ∧ Below W.heap.size W w')
    (hmono : ∀ a b, a ≤ b → b < n → p a = true → p b = true) :
    Calls Yba.prog 32 #[.int .i64 n, .func (.func 34) #[] caps] w fun e w' => ∃ r : Nat, e = .returned (.int .i64 r) ∧ r ≤ n ∧ (∀ t, t < r → p t = false) ∧ (∀ t, r ≤ t → t < n → p t = true) ∧ Below w.heap.size w w' := by
  have HF : Hid _ := hf
  have M : Hid _ := hmono
  clear hf hmono
  go_enter Yba.func32, Yba.ntmps32
  go_wp2
  go_loopg [5, 6] n (fun kx s5 s6 wr => ∃ (lo hi : Nat), s5 = .int .i64 lo ∧ s6 = .int .i64 hi ∧ lo ≤ hi ∧ hi ≤ n ∧ hi - lo ≤ kx ∧ Below w.heap.size w wr ∧
    Hid ((∀ t, t < lo → p t = false) ∧ (∀ t, hi ≤ t → t < n → p t = true)))
  case atStart => exact ⟨0, n, rfl, rfl, Nat.zero_le _, Nat.le_refl _, by omega, Below.refl _ _, (⟨fun t ht => absurd ht (Nat.not_lt_zero _), fun t h1 h2 => by omega⟩ : (∀ t, t < 0 → p t = false) ∧ (∀ t, n ≤ t → t < n → p t = true))⟩
  case round =>
    obtain ⟨lo, hi, rfl, rfl, hlh, hin, hg, hbe, I⟩ := hrel
    by_cases hlt : lo < hi
    · have hc := HF.out wr ((lo + hi) / 2) hbe (by omega)
      rw [show (((lo + hi) / 2 : Nat) : Int) = ((lo : Int) + (hi : Int)) / 2 by omega] at hc
      cases hp : p ((lo + hi) / 2) <;> rw [hp] at hc
      · have HP : Hid (p ((lo + hi) / 2) = false) := hp
        clear hp
        go_wp2_with (go_at_call 34; refine hc.mono ?_; rintro e w' ⟨rfl, hb1⟩)
        go_roundg (hi - ((lo + hi) / 2 + 1))
        case measure => omega
        case rel =>
          have I2 : Hid ((∀ t, t < (lo + hi) / 2 + 1 → p t = false) ∧ (∀ t, hi ≤ t → t < n → p t = true)) := ⟨fun t ht => (by
            cases h : p t with
            | false => rfl
            | true => have := M.out t ((lo + hi) / 2) (by omega) (by omega) h; rw [HP.out] at this; cases this), I.out.2⟩
          exact ⟨(lo + hi) / 2 + 1, hi, by rw [show ((lo : Int) + (hi : Int)) / 2 + 1 = (((lo + hi) / 2 + 1 : Nat) : Int) by omega], rfl, by omega, hin, Nat.le_refl _, hbe.trans (hb1.mono hbe.size), I2⟩
      · have HP : Hid (p ((lo + hi) / 2) = true) := hp
        clear hp
        go_wp2_with (go_at_call 34; refine hc.mono ?_; rintro e w' ⟨rfl, hb1⟩)
        go_roundg ((lo + hi) / 2 - lo)
        case measure => omega
        case rel =>
          have I2 : Hid ((∀ t, t < lo → p t = false) ∧ (∀ t, (lo + hi) / 2 ≤ t → t < n → p t = true)) := ⟨I.out.1, fun t ht htn => M.out ((lo + hi) / 2) t ht htn HP.out⟩
          exact ⟨lo, (lo + hi) / 2, rfl, by rw [show ((lo : Int) + (hi : Int)) / 2 = (((lo + hi) / 2 : Nat) : Int) by omega], by omega, by omega, Nat.le_refl _, hbe.trans (hb1.mono hbe.size), I2⟩
    · obtain rfl : hi = lo := by omega
      go_wp2
      go_ret
      exact ⟨hi, rfl, hin, I.out.1, I.out.2, hbe⟩
end Go.Proofs.Ybulkbivk
