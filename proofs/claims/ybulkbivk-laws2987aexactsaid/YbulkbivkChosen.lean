/-
  CONTRACTS: (*Leader).Chosen (function 15), NewLeader (function 16).
-/
import Derived.Test.YbulkbivkBallot
import Derived.Deep.QuietTactic
import Derived.BigQuiet
namespace Go.Proofs.Ybulkbivk
open Go.RowKit
attribute [local go_sem ↓] Go.wp_at_zero Go.wp_at_succ
set_option linter.unusedVariables false

theorem ci_cases (x y : Int) : (x < y ∧ Lib.compareInt x y = -1) ∨ (x = y ∧ Lib.compareInt x y = 0) ∨ (y < x ∧ Lib.compareInt x y = 1) := by
  unfold Lib.compareInt; split <;> (try split) <;> omega

theorem atKB_le (k b : Int) (m n : Msg) (h : m.kind < n.kind ∨ m.kind = n.kind ∧ m.bal ≤ n.bal) : atKB k b m ≤ atKB k b n := by
  unfold atKB orList orList orList
  have h1 := ci_cases m.kind k
  have h2 := ci_cases n.kind k
  have h3 := ci_cases m.bal b
  have h4 := ci_cases n.bal b
  generalize Lib.compareInt m.kind k = p at *
  generalize Lib.compareInt n.kind k = p' at *
  generalize Lib.compareInt m.bal b = q at *
  generalize Lib.compareInt n.bal b = q' at *
  by_cases a1 : p = 0 <;> by_cases a2 : p' = 0 <;> by_cases a3 : q = 0 <;> by_cases a4 : q' = 0 <;> simp only [a1, a2, a3, a4, if_true, if_false] <;> omega

theorem atKB_mono {L : List Msg} (hS : SortedM L) (k b : Int) (x y : Nat) (mx my : Msg) (hxy : x ≤ y) (hx : L[x]? = some mx) (hy : L[y]? = some my) : atKB k b mx ≤ atKB k b my := by
  by_cases he : x = y
  · subst he; rw [hx] at hy; cases hy; exact Int.le_refl _
  · obtain ⟨hxl, rfl⟩ := List.getElem?_eq_some_iff.1 hx
    obtain ⟨hyl, rfl⟩ := List.getElem?_eq_some_iff.1 hy
    have h := (cmpMsg_lt _ _).1 (List.pairwise_iff_getElem.1 hS x y hxl hyl (by omega))
    have hle : (L[x]).kind < (L[y]).kind ∨ (L[x]).kind = (L[y]).kind ∧ (L[x]).bal ≤ (L[y]).bal := by unfold LtMsg at h; omega
    exact atKB_le k b _ _ hle

theorem atKB_zero (k b : Int) (m : Msg) : atKB k b m = 0 ↔ m.kind = k ∧ m.bal = b := by
  unfold atKB orList orList orList
  rw [← ci_eq m.kind k, ← ci_eq m.bal b]
  generalize Lib.compareInt m.kind k = p
  generalize Lib.compareInt m.bal b = q
  by_cases a1 : p = 0 <;> by_cases a3 : q = 0 <;> simp [a1, a3]

/-- The value of the last message of a stretch. -/
def lastV (L : List Msg) (lo hi : Nat) : ByteArray := if lo < hi then ((L[hi - 1]?).map Msg.val).getD ⟨#[]⟩ else ⟨#[]⟩

/-- The stretch [lo, hi) of L is where f is zero. -/
def Stretch (L : List Msg) (f : Msg → Int) (lo hi : Nat) : Prop :=
  lo ≤ hi ∧ hi ≤ L.length ∧ (∀ (j : Nat) (m : Msg), j < lo → L[j]? = some m → f m < 0) ∧ (∀ (j : Nat) (m : Msg), lo ≤ j → j < hi → L[j]? = some m → f m = 0) ∧ (∀ (j : Nat) (m : Msg), hi ≤ j → L[j]? = some m → 0 < f m)

def ChPost (L : List Msg) (f : Msg → Int) (q : Int) (w : World) (e : Ending) (w' : World) : Prop :=
  ∃ lo hi : Nat, Stretch L f lo hi ∧ Below w.heap.size w w' ∧
    ((((hi - lo : Nat) : Int) < q ∧ e = .returned (.tuple #[.string ⟨#[]⟩, .bool false])) ∨ (¬ ((hi - lo : Nat) : Int) < q ∧ e = .returned (.tuple #[.string (lastV L lo hi), .bool true])))

set_option maxHeartbeats 4000000 in
set_option maxRecDepth 100000 in
theorem chosen_calls (base pb : Nat) (v : Value) (L : List Msg) (lb q : Int) (w : World) (hn : L.length ≤ 4096) (hS : SortedM L) (hown : w.ownsRow base 33 5 v L.length (cellsOf L))
    (h0 : w.cell? ⟨pb, 0, none⟩ = some (.int .i64 lb)) (h1 : w.cell? ⟨pb, 1, none⟩ = some (.int .i64 q)) (h3 : w.cell? ⟨pb, 3, none⟩ = some v) :
    Calls Yba.prog 15 #[.pointer (some ⟨pb, 0, none⟩)] w (ChPost L (atKB 4 lb) q w) := by
  obtain ⟨a, cap, g, rfl, hag, hM, hlc, hcm, _, _⟩ := own_msgs hown
  have CB : Hid (∀ W, Below w.heap.size w W → Calls Yba.prog 21 #[.slice a L.length cap, .int .i64 4, .int .i64 lb] W (BalPost L (atKB 4 lb) g L.length W)) := fun W hW =>
    ballot_calls L 4 lb a g L.length cap W hn (fun j mj hj i u hu => cell_later hW (hM j mj hj i u hu)) rfl hlc hcm hag (fun x y mx my hxy hx hy => atKB_mono hS 4 lb x y mx my hxy hx hy)
  have HM : Hid (HasMsgs w g 0 L) := hM
  clear hM hown hS hag
  generalize atKB 4 lb = f at CB ⊢
  obtain ⟨n, hnn⟩ : ∃ n, n = L.length := ⟨_, rfl⟩
  go_enter Yba.func15, Yba.ntmps15
  go_wp2_with fail
  go_region_held3 (fun w' => w'.cell? ⟨pb, 0, none⟩ = some (.int .i64 lb) ∧ w'.cell? ⟨pb, 3, none⟩ = some (.slice a L.length cap))
      (first | go_keep | (repeat' apply And.intro) <;> (refine cell_later hb1 ?_; simp [*]; done))
      (first | (go_at_call 21; refine (CB.out _ ?_).mono ?_; (exact (Below.refl _ w).drew); rintro e w' ⟨lo, hi, a', rfl, hlh, hhn, ha', s1, s2, s3, hb1⟩))
  obtain ⟨len, hlenE⟩ : ∃ len, len = hi - lo := ⟨_, rfl⟩
  have HLEN : Hid (len = hi - lo) := hlenE
  rw [← hlenE]
  have hW : Below w.heap.size w w' := below_drop hb1 (Nat.le_refl _)
  have HST : Hid (Stretch L f lo hi) := ⟨hlh, hhn, s1, s2, s3⟩
  have HAA : Hid (lo < hi → a' = some ⟨g, lo * 5, none⟩) := ha'
  have hl4 : len ≤ 4096 := by omega
  have HM1 : Hid (HasMsgs w' g 0 L) := fun j mj hj i u hu => cell_later hW (HM.out j mj hj i u hu)
  have HW : Hid (Below w.heap.size w w') := hW
  have g1 : w'.cell? ⟨pb, 1, none⟩ = some (.int .i64 q) := cell_later hW h1
  have G1 : Hid (w'.cell? ⟨pb, 1, none⟩ = some (.int .i64 q)) := g1
  clear s1 s2 s3 hlenE ha' hW hb1 HM h0 h1 h3 g1
  go_wp2_with fail
  go_loopw [2, 4, 17] (fun v c i wr => ∃ k : Nat, k ≤ len ∧ i = .int .i64 k ∧ c = .int .i64 k ∧ v = .string (lastV L lo (lo + k)) ∧ Below w'.heap.size w' wr) (fun _ _ i _ => len - (intOf i).toNat)
  case atStart => exact ⟨0, Nat.zero_le _, rfl, rfl, by simp [lastV], Below.refl _ _⟩
  case round =>
    obtain ⟨k, hk, rfl, rfl, rfl, hbr⟩ := hrel
    by_cases hlt : k < len
    · have hh := HLEN.out
      obtain ⟨m, hm⟩ : ∃ m, L[lo + k]? = some m := ⟨_, List.getElem?_eq_getElem (by omega)⟩
      obtain rfl := HAA.out (by omega)
      obtain ⟨c0, c1, c2, c3, c4⟩ := HM1.out.five hm
      have e5 : (lo + k) * 5 = lo * 5 + k * 5 := by omega
      rw [Nat.zero_add, e5] at c0 c1 c2 c3 c4
      have d0 := cell_later hbr c0
      have d1 := cell_later hbr c1
      have d2 := cell_later hbr c2
      have d3 := cell_later hbr c3
      have d4 := cell_later hbr c4
      have HV : Hid (lastV L lo (lo + (k + 1)) = m.val) := by
        show lastV L lo (lo + (k + 1)) = m.val
        unfold lastV
        rw [if_pos (by omega), show lo + (k + 1) - 1 = lo + k by omega, hm]; rfl
      have hkl : (k : Int) < (len : Int) := by omega
      generalize lastV L lo (lo + k) = vv
      clear c0 c1 c2 c3 c4 hm e5 hh
      go_wp2_with fail
      go_quiet (fail)
      go_wp2
      go_roundw
      case rel => exact ⟨k + 1, by omega, by go_num, by go_num, by rw [HV.out], hbr.trans (below_drewN ((Below.refl _ wr).alloc (Nat.le_refl _) _ |>.mono hbr.size) _)⟩
      case measure => simp [intOf]; omega
    · obtain rfl : k = len := by omega
      have hh := HLEN.out
      have d1 := cell_later hbr G1.out
      have HF : Hid (Below w.heap.size w wr) := HW.out.trans (hbr.mono HW.out.size)
      have HE : Hid (lo + k = hi) := by show lo + k = hi; omega
      clear hh hlt
      by_cases hq : (k : Int) < q
      · go_wp2
        go_ret2
        refine ⟨lo, hi, HST.out, HF.out, .inl ⟨by rw [← HLEN.out]; exact hq, rfl⟩⟩
      · generalize hvv : lastV L lo (lo + k) = vv
        have HVV : Hid (lastV L lo (lo + k) = vv) := hvv
        clear hvv
        go_wp2
        go_ret2
        refine ⟨lo, hi, HST.out, HF.out, .inr ⟨by rw [← HLEN.out]; omega, ?_⟩⟩
        rw [← HE.out, HVV.out]; rfl

/-- A struct of four cells behind a store into its fourth. -/
theorem leader_block {W : World} {pb : Nat} {x0 x1 x2 x3 v : Value} {t : TypeId} (h : W.heap[pb]? = some (.cells #[x0, x1, x2, x3] t (0, 0))) :
    (W.setCell ⟨pb, 3, none⟩ v).heap[pb]? = some (.cells #[x0, x1, x2, v] t (0, 0)) := by
  rw [setCell_eq_setRow W pb 3 _ _ _ v h]
  exact setRow_heap _ _ _ _ _ _ h

def m1a (b : Int) : Msg := ⟨0, 0, b, 0, ⟨#[]⟩⟩

/-- What NewLeader leaves: a leader in a block of its own. -/
def NlPost (b q p : Int) (w : World) (e : Ending) (w' : World) : Prop :=
  ∃ v, e = .returned (.pointer (some ⟨w.heap.size, 0, none⟩)) ∧ w'.heap[w.heap.size]? = some (.cells #[.int .i64 b, .int .i64 q, .int .i64 p, v] 50 (0, 0)) ∧
    w'.ownsRow (w.heap.size + 1) 33 5 v 1 (cellsOf [m1a b]) ∧ Below w.heap.size w w'

theorem sorted_nil : SortedM [] := List.Pairwise.nil

set_option maxHeartbeats 1000000 in
set_option maxRecDepth 100000 in
theorem newLeader_calls (b q p : Int) (w : World) : Calls Yba.prog 16 #[.int .i64 b, .int .i64 q, .int .i64 p] w (NlPost b q p w) := by
  have CA : Hid (∀ W : World, W = w.alloc (.cells #[.int .i64 b, .int .i64 q, .int .i64 p, .slice none 0 0] 50) →
      Calls Yba.prog 8 #[.pointer (some ⟨w.heap.size, 3, none⟩), .agg #[.int .i64 0, .int .i64 0, .int .i64 b, .int .i64 0, .string ⟨#[]⟩]] W (AddPost (w.heap.size + 1) (.slice none 0 0) [m1a b] w.heap.size 3 W)) := by
    rintro W rfl
    exact add_calls (w.heap.size + 1) w.heap.size 3 (.slice none 0 0) [] (m1a b) _ (by simp) sorted_nil (World.ownsRow_nil _ _ _ _) (by simp) (by omega) (by rw [World.cell?_alloc_new]; rfl) (by rw [World.frozen?_alloc_new])
  go_enter Yba.func16, Yba.ntmps16
  go_wp2_with fail
  refine (CA.out _ rfl).mono ?_
  rintro e w' ⟨v', rfl, hown, hblk, ho, ht, hou, hsz, hk⟩
  have HR : Hid (NlPost b q p w (.returned (.pointer (some ⟨w.heap.size, 0, none⟩))) w') := by
    refine ⟨v', rfl, ?_, hown, ?_⟩
    · rw [hblk]; exact leader_block (heap_alloc_new w _)
    · refine ⟨ho, ht, hou, by simp at hsz; omega, fun k hk' => ?_⟩
      rw [hk k (by simp; omega) (by omega) (by simp [Value.ownBlock])]
      exact Below.heap_alloc _ _ _ hk'
  clear hown hblk ho ht hou hsz hk
  go_wp2
  go_ret
  exact HR.out
end Go.Proofs.Ybulkbivk
