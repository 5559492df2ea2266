/-
  CONTRACT: (messageSet).ballot (function 21).
-/
import Derived.Test.YbulkbivkAdd
import Derived.Laws.EntriesVeiled
namespace Go.Proofs.Ybulkbivk
open Go.RowKit
attribute [local go_sem ↓] Go.wp_at_zero Go.wp_at_succ
set_option linter.unusedVariables false

/-- What 'ballot' leaves: of the messages those of the kind and the ballot, a stretch of the set. -/
def BalPost (L : List Msg) (f : Msg → Int) (g n : Nat) (w : World) (e : Ending) (w' : World) : Prop :=
  ∃ (lo hi : Nat) (a' : Option Addr), e = .returned (.slice a' (hi - lo) (hi - lo)) ∧ lo ≤ hi ∧ hi ≤ n ∧ (lo < hi → a' = some ⟨g, lo * 5, none⟩) ∧
    (∀ (j : Nat) (m : Msg), j < lo → L[j]? = some m → f m < 0) ∧ (∀ (j : Nat) (m : Msg), lo ≤ j → j < hi → L[j]? = some m → f m = 0) ∧ (∀ (j : Nat) (m : Msg), hi ≤ j → L[j]? = some m → 0 < f m) ∧ Below w.heap.size w w'

def gP (L : List Msg) (f : Msg → Int) (j : Nat) : Bool := match L[j]? with | some m => decide (0 ≤ f m) | none => true
def gQ (L : List Msg) (f : Msg → Int) (lo i : Nat) : Bool := match L[lo + i]? with | some m => decide (0 < f m) | none => true

theorem bal_end {L : List Msg} {f : Msg → Int} {g n lo r : Nat} {a' : Option Addr} {w w' : World} (hn : L.length = n) (hlo : lo ≤ n) (hr : r ≤ n - lo)
    (hp : (∀ t, t < lo → gP L f t = false) ∧ (∀ t, lo ≤ t → t < n → gP L f t = true)) (hq : (∀ t, t < r → gQ L f lo t = false) ∧ (∀ t, r ≤ t → t < n - lo → gQ L f lo t = true)) (ha : 0 < r → a' = some ⟨g, lo * 5, none⟩) (hb : Below w.heap.size w w') :
    BalPost L f g n w (.returned (.slice a' r r)) w' := by
  refine ⟨lo, lo + r, a', by rw [Nat.add_sub_cancel_left], by omega, by omega, fun h => ha (by omega), ?_, ?_, ?_, hb⟩
  · intro j m hj hm
    have := hp.1 j hj
    simp only [gP, hm, decide_eq_false_iff_not] at this
    omega
  · intro j m hj1 hj2 hm
    have hjl := (List.getElem?_eq_some_iff.1 hm).1
    have h1 := hp.2 j hj1 (by omega)
    have h2 := hq.1 (j - lo) (by omega)
    simp only [gQ, show lo + (j - lo) = j by omega, hm, decide_eq_false_iff_not] at h2
    simp only [gP, hm, decide_eq_true_eq] at h1
    omega
  · intro j m hj hm
    have hjl := (List.getElem?_eq_some_iff.1 hm).1
    have h2 := hq.2 (j - lo) (by omega) (by omega)
    simp only [gQ, show lo + (j - lo) = j by omega, hm, decide_eq_true_eq] at h2
    exact h2

set_option maxHeartbeats 4000000 in
set_option maxRecDepth 100000 in
theorem ballot_calls (L : List Msg) (k b : Int) (a : Option Addr) (g n cap : Nat) (w : World) (hn : n ≤ 4096) (hL : HasMsgs w g 0 L) (hlen : L.length = n) (hlc : n ≤ cap) (hcm : cap ≤ maxLen) (ha : 0 < n → a = some ⟨g, 0, none⟩)
    (hmono : ∀ (x y : Nat) (mx my : Msg), x ≤ y → L[x]? = some mx → L[y]? = some my → atKB k b mx ≤ atKB k b my) :
    Calls Yba.prog 21 #[.slice a n cap, .int .i64 k, .int .i64 b] w (BalPost L (atKB k b) g n w) := by
  have C33 : Hid (∀ (W : World) (pk pb pa pm : Nat), Below w.heap.size w W → W.cell? ⟨pk, 0, none⟩ = some (.int .i64 k) → W.cell? ⟨pb, 0, none⟩ = some (.int .i64 b) →
      W.cell? ⟨pa, 0, none⟩ = some (.func (.func 31) #[] #[.pointer (some ⟨pk, 0, none⟩), .pointer (some ⟨pb, 0, none⟩)]) → W.cell? ⟨pm, 0, none⟩ = some (.slice a n cap) →
      Calls Yba.prog 32 #[.int .i64 n, .func (.func 33) #[] #[.pointer (some ⟨pa, 0, none⟩), .pointer (some ⟨pm, 0, none⟩)]] W fun e w' => ∃ r : Nat, e = .returned (.int .i64 r) ∧ r ≤ n ∧ (∀ t, t < r → gP L (atKB k b) t = false) ∧ (∀ t, r ≤ t → t < n → gP L (atKB k b) t = true) ∧ Below W.heap.size W w') := by
    intro W pk pb pa pm hW h1 h2 h3 h4
    refine search33 _ n (gP L (atKB k b)) W hn ?_ ?_
    · intro W' j hW' hj
      obtain ⟨m, hm⟩ : ∃ m, L[j]? = some m := ⟨_, List.getElem?_eq_getElem (by omega)⟩
      have e : gP L (atKB k b) j = decide (0 ≤ atKB k b m) := by simp [gP, hm]
      rw [e]
      have haa := ha (by omega)
      subst haa
      exact ge_calls L k b pk pb pa pm g n cap j m W' (cell_later hW' h1) (cell_later hW' h2) (cell_later hW' h3) (cell_later hW' h4) (fun j mj hj i u hu => cell_later (hW.trans (hW'.mono hW.size)) (hL j mj hj i u hu)) hlen hm
    · intro x y hxy hy hp
      obtain ⟨mx, hmx⟩ : ∃ m, L[x]? = some m := ⟨_, List.getElem?_eq_getElem (by omega)⟩
      obtain ⟨my, hmy⟩ : ∃ m, L[y]? = some m := ⟨_, List.getElem?_eq_getElem (by omega)⟩
      have := hmono x y mx my hxy hmx hmy
      simp only [gP, hmx, hmy, decide_eq_true_eq] at hp ⊢
      omega
  have C34 : Hid (∀ (W : World) (pk pb pa pm pl lo : Nat), Below w.heap.size w W → lo ≤ n → W.cell? ⟨pk, 0, none⟩ = some (.int .i64 k) → W.cell? ⟨pb, 0, none⟩ = some (.int .i64 b) →
      W.cell? ⟨pa, 0, none⟩ = some (.func (.func 31) #[] #[.pointer (some ⟨pk, 0, none⟩), .pointer (some ⟨pb, 0, none⟩)]) → W.cell? ⟨pm, 0, none⟩ = some (.slice a n cap) → W.cell? ⟨pl, 0, none⟩ = some (.int .i64 lo) →
      Calls Yba.prog 32 #[.int .i64 ((n : Int) - (lo : Int)), .func (.func 34) #[] #[.pointer (some ⟨pa, 0, none⟩), .pointer (some ⟨pm, 0, none⟩), .pointer (some ⟨pl, 0, none⟩)]] W fun e w' => ∃ r : Nat, e = .returned (.int .i64 r) ∧ r ≤ n - lo ∧ (∀ t, t < r → gQ L (atKB k b) lo t = false) ∧ (∀ t, r ≤ t → t < n - lo → gQ L (atKB k b) lo t = true) ∧ Below W.heap.size W w') := by
    intro W pk pb pa pm pl lo hW hlo h1 h2 h3 h4 h5
    rw [show (n : Int) - (lo : Int) = ((n - lo : Nat) : Int) from by omega]
    refine search34 _ (n - lo) (gQ L (atKB k b) lo) W (by omega) ?_ ?_
    · intro W' j hW' hj
      obtain ⟨m, hm⟩ : ∃ m, L[lo + j]? = some m := ⟨_, List.getElem?_eq_getElem (by omega)⟩
      have e : gQ L (atKB k b) lo j = decide (0 < atKB k b m) := by simp [gQ, hm]
      rw [e]
      have haa := ha (by omega)
      subst haa
      exact gt_calls L k b pk pb pa pm pl g n cap lo j (lo + j) m W' (cell_later hW' h1) (cell_later hW' h2) (cell_later hW' h3) (cell_later hW' h4) (cell_later hW' h5) rfl hn (fun j mj hj i u hu => cell_later (hW.trans (hW'.mono hW.size)) (hL j mj hj i u hu)) hlen hm
    · intro x y hxy hy hp
      obtain ⟨mx, hmx⟩ : ∃ m, L[lo + x]? = some m := ⟨_, List.getElem?_eq_getElem (by omega)⟩
      obtain ⟨my, hmy⟩ : ∃ m, L[lo + y]? = some m := ⟨_, List.getElem?_eq_getElem (by omega)⟩
      have := hmono (lo + x) (lo + y) mx my (by omega) hmx hmy
      simp only [gQ, hmx, hmy, decide_eq_true_eq] at hp ⊢
      omega
  have HA : Hid (0 < n → a = some ⟨g, 0, none⟩) := ha
  have HN : Hid (L.length = n) := hlen
  clear hmono hL hlen ha
  generalize atKB k b = f at C33 C34 ⊢
  go_enter Yba.func21, Yba.ntmps21
  go_wp2_with fail
  obtain ⟨W0, hW0⟩ : ∃ W0, W0 = ((((w.alloc (.cells #[.slice a n cap] 25)).alloc (.cells #[.int .i64 k] 30)).alloc (.cells #[.int .i64 b] 3)).alloc (.cells #[.func (.func 31) #[] #[.pointer (some ⟨w.heap.size + 1, 0, none⟩), .pointer (some ⟨w.heap.size + 1 + 1, 0, none⟩)]] 76)) := ⟨_, rfl⟩
  rw [← hW0]
  have hB0 : Below w.heap.size w W0 := by rw [hW0]; exact ((((Below.refl _ _).alloc (Nat.le_refl _) _).alloc (by simp) _).alloc (by simp; omega) _).alloc (by simp; omega) _
  have hS0 : W0.heap.size = w.heap.size + 4 := by rw [hW0]; simp
  have cm : W0.cell? ⟨w.heap.size, 0, none⟩ = some (.slice a n cap) := by rw [hW0]; go_simp
  have ck : W0.cell? ⟨w.heap.size + 1, 0, none⟩ = some (.int .i64 k) := by rw [hW0]; go_simp
  have cb : W0.cell? ⟨w.heap.size + 1 + 1, 0, none⟩ = some (.int .i64 b) := by rw [hW0]; go_simp
  have ca : W0.cell? ⟨w.heap.size + 1 + 1 + 1, 0, none⟩ = some (.func (.func 31) #[] #[.pointer (some ⟨w.heap.size + 1, 0, none⟩), .pointer (some ⟨w.heap.size + 1 + 1, 0, none⟩)]) := by rw [hW0]; go_simp
  clear hW0
  refine (C33.out W0 _ _ _ _ hB0 ck cb ca cm).mono ?_
  rintro e w1 ⟨lo, rfl, hlo, p1, p2, hb1⟩
  have HP1 : Hid ((∀ t, t < lo → gP L f t = false) ∧ (∀ t, lo ≤ t → t < n → gP L f t = true)) := ⟨p1, p2⟩
  have hB1 : Below w.heap.size w w1 := hB0.trans (hb1.mono hB0.size)
  have hS1 : w.heap.size + 4 ≤ w1.heap.size := by have := hb1.size; omega
  have dm := cell_later hb1 cm
  have dk := cell_later hb1 ck
  have db := cell_later hb1 cb
  have da := cell_later hb1 ca
  clear p1 p2 cm ck cb ca hb1 hB0 hS0
  go_wp2_with fail
  obtain ⟨W2, hW2⟩ : ∃ W2, W2 = w1.alloc (.cells #[.int .i64 lo] 3) := ⟨_, rfl⟩
  rw [← hW2]
  have hN : Below w1.heap.size w1 W2 := by rw [hW2]; exact (Below.refl _ _).alloc (Nat.le_refl _) _
  have hB2 : Below w.heap.size w W2 := hB1.trans (hN.mono hB1.size)
  have cm := cell_later hN dm
  have ck := cell_later hN dk
  have cb := cell_later hN db
  have ca := cell_later hN da
  have cl : W2.cell? ⟨w1.heap.size, 0, none⟩ = some (.int .i64 lo) := by rw [hW2]; go_simp
  clear hW2 hN dm dk db da hB1 hS1
  have hwr : IntKind.i64.wrap ((n : Int) - (lo : Int)) = (n : Int) - (lo : Int) := IntWalk.i64_in _ ⟨by omega, by omega⟩
  go_region_held3 (fun w' => w'.cell? ⟨w1.heap.size, 0, none⟩ = some (.int .i64 lo) ∧ w'.cell? ⟨w.heap.size, 0, none⟩ = some (.slice a n cap))
      (first | go_keep | (repeat' apply And.intro) <;> (refine cell_later hb1 ?_; simp [*]; done))
      (first | (go_at_call 32; refine (C34.out W2.drew (w.heap.size + 1) (w.heap.size + 1 + 1) _ _ _ lo hB2.drew hlo ck cb ca cm cl).mono ?_; rintro e w' ⟨r, rfl, hr, q1, q2, hb1⟩; have hw2 : IntKind.i64.wrap ((lo : Int) + (r : Int)) = (lo : Int) + (r : Int) := IntWalk.i64_in _ ⟨by omega, by omega⟩))
  have hB3 : Below w.heap.size w w' := hB2.trans (below_drop hb1 hB2.size)
  have em := cell_later (below_drop hb1 (Nat.le_refl _)) cm
  have el := cell_later (below_drop hb1 (Nat.le_refl _)) cl
  have HQ : Hid ((∀ t, t < r → gQ L f lo t = false) ∧ (∀ t, r ≤ t → t < n - lo → gQ L f lo t = true)) := ⟨q1, q2⟩
  clear q1 q2 cm ck cb ca cl hB2 hwr hw2 hb1
  have b1 : (0 : Int) ≤ (lo : Int) := by omega
  by_cases hr0 : r = 0
  · subst hr0
    have b3 : (lo : Int) ≤ (n : Int) := by omega
    have b4 : (lo : Int) ≤ (cap : Int) := by omega
    go_wp2_with fail
    go_ret
    exact bal_end (r := 0) HN.out hlo hr HP1.out HQ.out (fun h => absurd h (Nat.lt_irrefl _)) hB3
  · obtain rfl := HA.out (by omega)
    have b2 : (lo : Int) ≤ (lo : Int) + (r : Int) := by omega
    have b3 : (lo : Int) + (r : Int) ≤ (n : Int) := by omega
    have b4 : (lo : Int) + (r : Int) ≤ (cap : Int) := by omega
    have b5 : ¬ (lo + r = lo) := by omega
    go_wp2_with fail
    go_ret
    exact bal_end (r := r) HN.out hlo hr HP1.out HQ.out (fun _ => rfl) hB3
end Go.Proofs.Ybulkbivk
