/-
  CONTRACT: slices.BinarySearchFunc (function 18) over messages, by compareMessages.
-/
import Derived.Test.YbulkbivkCmpMsg
import Derived.Test.YbulkbivkBal
import Derived.Deep.QuietTactic
import Derived.BigQuiet
namespace Go.Proofs.Ybulkbivk
open Go.RowKit
attribute [local go_sem ↓] Go.wp_at_zero Go.wp_at_succ

theorem below_drop {B : Nat} {w w' : World} (h : Below w.drew.heap.size w.drew w') (hB : B ≤ w.heap.size) : Below B w w' :=
  ((Below.refl B w).drew).trans (h.mono hB)

/-- What the search gives: a place r; ahead of it all are less, from it on none; and whether an equal one stands there. -/
def BsPost (L : List Msg) (f : Msg → Int) (n : Nat) (w : World) (e : Ending) (w' : World) : Prop :=
  ∃ (r : Nat) (b : Bool), e = .returned (.tuple #[.int .i64 r, .bool b]) ∧ r ≤ n ∧
    (∀ (j : Nat) (m : Msg), j < r → L[j]? = some m → f m < 0) ∧ (∀ (j : Nat) (m : Msg), r ≤ j → L[j]? = some m → 0 ≤ f m) ∧ (b = true ↔ ∃ m, L[r]? = some m ∧ f m = 0) ∧ Below w.heap.size w w'

set_option maxHeartbeats 4000000 in
set_option maxRecDepth 100000 in
theorem bsearch_calls (L : List Msg) (t : Msg) (a : Option Addr) (g n cap : Nat) (w : World) (hn : n ≤ 4096) (hL : HasMsgs w g 0 L) (hlen : L.length = n) (ha : 0 < n → a = some ⟨g, 0, none⟩)
    (hmono : ∀ (x y : Nat) (mx my : Msg), x ≤ y → L[x]? = some mx → L[y]? = some my → cmpMsg my t < 0 → cmpMsg mx t < 0) :
    Calls Yba.prog 18 #[.slice a n cap, .agg t.cells.toArray, .func (.func 19) #[] #[]] w fun e w' => BsPost L (fun m => cmpMsg m t) n w e w' := by
  have C : Hid (∀ m W, Calls Yba.prog 19 #[.agg m.cells.toArray, .agg t.cells.toArray] W fun e w' => e = .returned (.int .i64 (cmpMsg m t)) ∧ Below W.heap.size W w') := fun m W => cmpMsg_calls m t W
  have HL : Hid (HasMsgs w g 0 L) := hL
  have HM : Hid _ := hmono
  have HN : Hid (L.length = n) := hlen
  have HA : Hid (0 < n → a = some ⟨g, 0, none⟩) := ha
  clear hL hmono hlen ha
  have T : Hid (∀ x : Msg, True) := fun _ => trivial
  obtain ⟨f, hf⟩ : ∃ f : Msg → Int, f = fun m => cmpMsg m t := ⟨_, rfl⟩
  have hfm : ∀ m, cmpMsg m t = f m := fun m => by rw [hf]
  have C' : Hid (∀ m W, Calls Yba.prog 19 #[.agg m.cells.toArray, .agg t.cells.toArray] W fun e w' => e = .returned (.int .i64 (f m)) ∧ Below W.heap.size W w') := fun m W => hfm m ▸ C.out m W
  have HM' : Hid (∀ (x y : Nat) (mx my : Msg), x ≤ y → L[x]? = some mx → L[y]? = some my → f my < 0 → f mx < 0) := fun x y mx my h1 h2 h3 h4 => by rw [← hfm] at h4 ⊢; exact HM.out x y mx my h1 h2 h3 h4
  rw [← hf]
  clear hfm hf C HM T
  obtain ⟨tk, ta, tb, tv, ts⟩ := t
  simp only [Msg.cells] at C' ⊢
  go_enter Yba.func18, Yba.ntmps18
  go_wp2
  have hW : Below w.heap.size w (w.alloc (.cells #[.int .i64 tk, .int .i64 ta, .int .i64 tb, .int .i64 tv, .string ts] 33)) := (Below.refl _ _).alloc (Nat.le_refl _) _
  go_loopg [9, 10] n (fun kx s5 s6 wr => ∃ (lo hi : Nat), s5 = .int .i64 lo ∧ s6 = .int .i64 hi ∧ lo ≤ hi ∧ hi ≤ n ∧ hi - lo ≤ kx ∧ Below (w.heap.size + 1) (w.alloc (.cells #[.int .i64 tk, .int .i64 ta, .int .i64 tb, .int .i64 tv, .string ts] 33)) wr ∧
    Hid ((∀ (j : Nat) (m : Msg), j < lo → L[j]? = some m → f m < 0) ∧ (∀ (j : Nat) (m : Msg), hi ≤ j → L[j]? = some m → 0 ≤ f m)))
  case atStart => exact ⟨0, n, rfl, rfl, Nat.zero_le _, Nat.le_refl _, by omega, Below.refl _ _, (⟨fun j m hj => absurd hj (Nat.not_lt_zero _), fun j m hj hm => absurd (List.getElem?_eq_some_iff.1 hm).1 (by rw [HN.out]; omega)⟩ : _ ∧ _)⟩
  case round =>
    obtain ⟨lo, hi, rfl, rfl, hlh, hin, hg, hbe, I⟩ := hrel
    have tc : ∀ i v, [Value.int .i64 tk, .int .i64 ta, .int .i64 tb, .int .i64 tv, .string ts][i]? = some v → wr.cell? ⟨w.heap.size, i, none⟩ = some v := by
      intro i v hv
      rw [hbe.cell (show w.heap.size < w.heap.size + 1 by omega), World.cell?_alloc_new]
      simpa using hv
    have t0 : wr.cell? ⟨w.heap.size, 0, none⟩ = some (.int .i64 tk) := tc 0 _ rfl
    have t1 : wr.cell? ⟨w.heap.size, 1, none⟩ = some (.int .i64 ta) := tc 1 _ rfl
    have t2 : wr.cell? ⟨w.heap.size, 2, none⟩ = some (.int .i64 tb) := tc 2 _ rfl
    have t3 : wr.cell? ⟨w.heap.size, 3, none⟩ = some (.int .i64 tv) := tc 3 _ rfl
    have t4 : wr.cell? ⟨w.heap.size, 4, none⟩ = some (.string ts) := tc 4 _ rfl
    have hsz1 : w.heap.size + 1 ≤ wr.heap.size := by have := hbe.size; simpa using this
    have hbw : Below w.heap.size w wr := hW.trans (hbe.mono (by omega))
    have HLr : Hid (HasMsgs wr g 0 L) := fun j m hj i v hv => cell_later hbw (HL.out j m hj i v hv)
    clear tc
    by_cases hlt : lo < hi
    · obtain rfl := HA.out (by omega)
      obtain ⟨mid, hmid⟩ : ∃ mid : Nat, mid = (lo + hi) / 2 := ⟨_, rfl⟩
      have em : ((lo : Int) + (hi : Int)) / 2 = (mid : Int) := by omega
      have hm1 : lo ≤ mid := by omega
      have hm2 : mid < hi := by omega
      obtain ⟨m, hm⟩ : ∃ m, L[mid]? = some m := ⟨_, List.getElem?_eq_getElem (by rw [HN.out]; omega)⟩
      have HMM : Hid (L[mid]? = some m) := hm
      obtain ⟨c0, c1, c2, c3, c4⟩ := HLr.out.five hm
      have hmi : (mid : Int) < (n : Int) := by omega
      have CC : Hid (∀ W, Calls Yba.prog 19 #[.agg #[.int .i64 m.kind, .int .i64 m.acc, .int .i64 m.bal, .int .i64 m.vb, .string m.val], .agg #[.int .i64 tk, .int .i64 ta, .int .i64 tb, .int .i64 tv, .string ts]] W fun e w' => e = .returned (.int .i64 (f m)) ∧ Below W.heap.size W w') := fun W => C'.out m W
      have EM : Hid (((lo : Int) + (hi : Int)) / 2 = (mid : Int)) := em
      have HMID : Hid (mid = (lo + hi) / 2) := hmid
      clear hm hmid em
      generalize hfm : f m = fm at CC
      have HFM : Hid (f m = fm) := hfm
      clear hfm
      simp only [Nat.zero_add] at c0 c1 c2 c3 c4
      by_cases hneg : fm < 0
      · go_wp2_with fail
        rw [EM.out]
        go_region_held3 (fun w' => w'.cell? ⟨w.heap.size, 0, none⟩ = some (.int .i64 tk) ∧ w'.cell? ⟨w.heap.size, 1, none⟩ = some (.int .i64 ta) ∧ w'.cell? ⟨w.heap.size, 2, none⟩ = some (.int .i64 tb) ∧ w'.cell? ⟨w.heap.size, 3, none⟩ = some (.int .i64 tv) ∧ w'.cell? ⟨w.heap.size, 4, none⟩ = some (.string ts) ∧
          w'.cell? ⟨g, mid * 5, none⟩ = some (.int .i64 m.kind) ∧ w'.cell? ⟨g, mid * 5 + 1, none⟩ = some (.int .i64 m.acc) ∧ w'.cell? ⟨g, mid * 5 + 2, none⟩ = some (.int .i64 m.bal) ∧ w'.cell? ⟨g, mid * 5 + 3, none⟩ = some (.int .i64 m.vb) ∧ w'.cell? ⟨g, mid * 5 + 4, none⟩ = some (.string m.val))
          (first | go_keep | (repeat' apply And.intro) <;> (refine cell_later hb1 ?_; simp [*]; done))
          (first | (go_at_call 19; refine (CC.out _).mono ?_; rintro e w' ⟨rfl, hb1⟩))
        go_wp2
        go_roundg (hi - (mid + 1))
        case measure => omega
        case rel =>
          have I2 : Hid ((∀ (j : Nat) (m : Msg), j < mid + 1 → L[j]? = some m → f m < 0) ∧ (∀ (j : Nat) (m : Msg), hi ≤ j → L[j]? = some m → 0 ≤ f m)) :=
            ⟨fun j mj hj hmj => HM'.out j mid mj m (by omega) hmj HMM.out (by rw [HFM.out]; exact hneg), I.out.2⟩
          exact ⟨mid + 1, hi, by go_num, rfl, by omega, hin, Nat.le_refl _, hbe.trans (below_drop hb1 hsz1), I2⟩
      · go_wp2_with fail
        rw [EM.out]
        go_region_held3 (fun w' => w'.cell? ⟨w.heap.size, 0, none⟩ = some (.int .i64 tk) ∧ w'.cell? ⟨w.heap.size, 1, none⟩ = some (.int .i64 ta) ∧ w'.cell? ⟨w.heap.size, 2, none⟩ = some (.int .i64 tb) ∧ w'.cell? ⟨w.heap.size, 3, none⟩ = some (.int .i64 tv) ∧ w'.cell? ⟨w.heap.size, 4, none⟩ = some (.string ts) ∧
          w'.cell? ⟨g, mid * 5, none⟩ = some (.int .i64 m.kind) ∧ w'.cell? ⟨g, mid * 5 + 1, none⟩ = some (.int .i64 m.acc) ∧ w'.cell? ⟨g, mid * 5 + 2, none⟩ = some (.int .i64 m.bal) ∧ w'.cell? ⟨g, mid * 5 + 3, none⟩ = some (.int .i64 m.vb) ∧ w'.cell? ⟨g, mid * 5 + 4, none⟩ = some (.string m.val))
          (first | go_keep | (repeat' apply And.intro) <;> (refine cell_later hb1 ?_; simp [*]; done))
          (first | (go_at_call 19; refine (CC.out _).mono ?_; rintro e w' ⟨rfl, hb1⟩))
        go_wp2
        go_roundg (mid - lo)
        case measure => omega
        case rel =>
          have I2 : Hid ((∀ (j : Nat) (m : Msg), j < lo → L[j]? = some m → f m < 0) ∧ (∀ (j : Nat) (m : Msg), mid ≤ j → L[j]? = some m → 0 ≤ f m)) :=
            ⟨I.out.1, fun j mj hj hmj => Int.not_lt.1 fun hlt => by have h := HM'.out mid j m mj hj HMM.out hmj hlt; rw [HFM.out] at h; omega⟩
          exact ⟨lo, mid, rfl, rfl, hm1, by omega, Nat.le_refl _, hbe.trans (below_drop hb1 hsz1), I2⟩
    · obtain rfl : hi = lo := by omega
      by_cases hln : hi < n
      · obtain rfl := HA.out (by omega)
        obtain ⟨m, hm⟩ : ∃ m, L[hi]? = some m := ⟨_, List.getElem?_eq_getElem (by rw [HN.out]; omega)⟩
        have HMM : Hid (L[hi]? = some m) := hm
        obtain ⟨c0, c1, c2, c3, c4⟩ := HLr.out.five hm
        have hmi : (hi : Int) < (n : Int) := by omega
        have CC : Hid (∀ W, Calls Yba.prog 19 #[.agg #[.int .i64 m.kind, .int .i64 m.acc, .int .i64 m.bal, .int .i64 m.vb, .string m.val], .agg #[.int .i64 tk, .int .i64 ta, .int .i64 tb, .int .i64 tv, .string ts]] W fun e w' => e = .returned (.int .i64 (f m)) ∧ Below W.heap.size W w') := fun W => C'.out m W
        clear hm
        generalize hfm : f m = fm at CC
        have HFM : Hid (f m = fm) := hfm
        clear hfm
        simp only [Nat.zero_add] at c0 c1 c2 c3 c4
        clear hlh hin hlt
        go_wp2_with fail
        go_region_held3 (fun w' => w'.cell? ⟨w.heap.size, 0, none⟩ = some (.int .i64 tk) ∧ w'.cell? ⟨w.heap.size, 1, none⟩ = some (.int .i64 ta) ∧ w'.cell? ⟨w.heap.size, 2, none⟩ = some (.int .i64 tb) ∧ w'.cell? ⟨w.heap.size, 3, none⟩ = some (.int .i64 tv) ∧ w'.cell? ⟨w.heap.size, 4, none⟩ = some (.string ts) ∧
          w'.cell? ⟨g, hi * 5, none⟩ = some (.int .i64 m.kind) ∧ w'.cell? ⟨g, hi * 5 + 1, none⟩ = some (.int .i64 m.acc) ∧ w'.cell? ⟨g, hi * 5 + 2, none⟩ = some (.int .i64 m.bal) ∧ w'.cell? ⟨g, hi * 5 + 3, none⟩ = some (.int .i64 m.vb) ∧ w'.cell? ⟨g, hi * 5 + 4, none⟩ = some (.string m.val))
          (first | go_keep | (repeat' apply And.intro) <;> (refine cell_later hb1 ?_; simp [*]; done))
          (first | (go_at_call 19; refine (CC.out _).mono ?_; rintro e w' ⟨rfl, hb1⟩))
        go_wp2
        go_ret2
        refine ⟨hi, (fm == 0), rfl, by omega, I.out.1, I.out.2, ?_, hbw.trans ((below_drop hb1 (Nat.le_refl _)).mono hbw.size)⟩
        constructor
        · intro h; exact ⟨m, HMM.out, by rw [HFM.out]; simpa using h⟩
        · rintro ⟨m', h1, h2⟩
          have := HMM.out.symm.trans h1
          cases this
          rw [HFM.out] at h2
          simpa using h2
      · have hdf : decide ((hi : Int) < (n : Int)) = false := decide_eq_false (by omega)
        clear hlh hlt
        go_wp2_with fail
        go_quiet (fail)
        go_wp2
        go_ret2
        refine ⟨hi, false, rfl, by omega, I.out.1, I.out.2, ?_, below_drewN hbw _⟩
        constructor
        · intro h; cases h
        · rintro ⟨m', h1, h2⟩
          exact absurd (List.getElem?_eq_some_iff.1 h1).1 (by rw [HN.out]; omega)
end Go.Proofs.Ybulkbivk
