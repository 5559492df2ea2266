/-
  CONTRACT: (*LogAcceptorState).Votes (9), the sort's contract given.
-/
import Derived.Test.YbulkbivkFmtInSlot
import Derived.Test.YbulkbivkFmtCol
import Derived.Maps.RangeWalk
import Derived.Laws.EntriesVeiled
import Derived.OwnWalk
namespace Go.Proofs.YbulkbivkFmt
open Go.RowKit Go.Extern.Stop Go.Stop Go.Extern Go.Maps
attribute [local go_sem ↓] Go.wp_at_zero Go.wp_at_succ
set_option linter.unusedVariables false

def svRow (L : List SV) : List Value := L.flatMap SV.cells
theorem svRow_append (A B : List SV) : svRow (A ++ B) = svRow A ++ svRow B := by simp [svRow]
theorem svRow_one (s : SV) : svRow [s] = s.cells := by simp [svRow]
theorem svRow_length : ∀ L : List SV, (svRow L).length = L.length * 3
  | [] => rfl
  | s :: L => by have := svRow_length L; simp only [svRow, List.flatMap_cons, List.length_append, SV.cells_len, List.length_cons] at this ⊢; omega

def SortPost (base : Nat) (v : Value) (ss : List SV) (w : World) (e : Ending) (w' : World) : Prop :=
  e = .returned (.tuple #[]) ∧ ∃ d : List SV, d.Perm ss ∧ (d.Pairwise fun x y => ¬ y.slot < x.slot) ∧ w'.ownsRow base 27 3 v d.length (svRow d) ∧ w.grownBy w' v.ownBlock
/-- The sort's contract. -/
def SortSpec : Prop := ∀ (base : Nat) (v : Value) (ss : List SV) (W : World), W.ownsRow base 27 3 v ss.length (svRow ss) → (ss = [] → v = .slice none 0 0) → ss.length ≤ 4096 → Calls Ybaf.prog 12 #[v, .func (.func 13) #[] #[]] W (SortPost base v ss W)

def VotesPost (R : List SV) (w : World) (e : Ending) (w' : World) : Prop := ∃ v base, e = .returned v ∧ w'.ownsRow base 27 3 v R.length (svRow R) ∧ Below w.heap.size w w'

theorem info27 : (Ybaf.prog.info? 27).map (fun i => (i.zero, i.size, i.bytes)) = some (some (.agg #[.int .i64 0, .int .i64 0, .string ⟨#[]⟩]), 3, 32) := by kernel_rfl

theorem three_new2 (W : World) (o : Obj) (a b c : Value) (t : TypeId) : ∀ j u, [a, b, c][j]? = some u → ((W.alloc o).alloc (.cells #[a, b, c] t)).cell? ((⟨W.heap.size + 1, 0, none⟩ : Addr).add j) = some u := by
  intro j u hj
  have e : W.heap.size + 1 = (W.alloc o).heap.size := by simp
  rw [Addr.add_lit, Nat.zero_add, e, World.cell?_alloc_new]
  match j, hj with
  | 0, hj => simpa using hj
  | 1, hj => simpa using hj
  | 2, hj => simpa using hj

theorem own_slice {w : World} {base : Nat} {e : TypeId} {size : Nat} {v : Value} {n : Nat} {xs : List Value} (h : w.ownsRow base e size v n xs) : ∃ a c, v = .slice a n c := by
  rcases h.2 with ⟨rfl, rfl⟩ | ⟨g, cap, cur, rfl, _⟩
  · exact ⟨none, 0, rfl⟩
  · exact ⟨_, _, rfl⟩

theorem row_ne_iter' {W : World} {base r n cnt len : Nat} {m : Nat} {v : Value} {xs : List Value} {D : DataW Unit} {left : Lit → Bool} (ho : W.ownsRow base 27 3 v len xs) (hr : W.ranges Ybaf.prog 3 svElem m r n D left cnt) : some r ≠ v.ownBlock ∧ some m ≠ v.ownBlock := by
  obtain ⟨es, clock, since, seen, c0, hb, _, _, _, hit, _⟩ := hr
  rcases ho.2 with ⟨rfl, _⟩ | ⟨g, cap, cur, rfl, _, hg, _⟩
  · exact ⟨by simp [Value.ownBlock], by simp [Value.ownBlock]⟩
  · refine ⟨fun e => ?_, fun e => ?_⟩
    · simp only [Value.ownBlock, Option.some.injEq] at e
      subst e; rw [hit] at hg; cases hg
    · simp only [Value.ownBlock, Option.some.injEq] at e
      subst e; rw [hb] at hg; cases hg

set_option maxHeartbeats 4000000 in
set_option maxRecDepth 100000 in
theorem votes_calls (hsort : SortSpec) (ab m n : Nat) (mb f q : Int) (F : Nat → Option SV) (D : DataW Unit) (w : World) (hn : n ≤ 4096) (ha : w.heap[ab]? = some (.cells (accC mb m f) 34 (0, 0))) (hm : w.ownsMap Ybaf.prog 3 svElem m n D) (hD : MapIs D f F) :
    Calls Ybaf.prog 9 #[.pointer (some ⟨ab, 0, none⟩), .int .i64 q] w (VotesPost (resL F f q 256) w) := by
  obtain ⟨x0, x1, x2, _⟩ := acc_cells ha
  have HSO : Hid SortSpec := hsort
  have HD : Hid (MapIs D f F) := hD
  have hml : m < w.heap.size := hm.lt
  have hsz : Maps.size D ≤ n := hm.size_le
  clear ha x0 x2 hsort hD
  go_enter Ybaf.func9, Ybaf.ntmps9
  go_wp2_with (first | (at_range; refine wpList_range_own _ rfl _ 29 rfl 3 27 law3 Ybaf.underlying29 svElem m n D rfl hm ?_; intro w0 hrg0 hg0 hs0) | fail)
  go_frame
  have HR0 : Hid (w0.ranges Ybaf.prog 3 svElem m w.heap.size n D (Maps.has D) (Maps.size D)) := hrg0
  have HG0 : Hid (Below w.heap.size w w0) := (Below.refl _ w).grown hg0 (Nat.le_refl _) (fun k hk => by cases hk)
  have hs0' : w.heap.size + 1 ≤ w0.heap.size := by omega
  have hx1 : ab < w.heap.size := World.block_lt_of_cell? w _ x1
  clear hrg0 hg0 hs0
  go_loopw [5, 7] (fun s5 _ wr => ∃ (left : Lit → Bool) (cnt : Nat) (ss : List SV), Hid (wr.ranges Ybaf.prog 3 svElem m w.heap.size n D left cnt) ∧ Hid (wr.ownsRow (w.heap.size + 1) 27 3 s5 ss.length (svRow ss)) ∧ Hid (Col F f q left ss) ∧ Hid (ss = [] → s5 = .slice none 0 0) ∧ ss.length + cnt ≤ n ∧ Hid (Below w.heap.size w wr))
    (fun _ _ wr => wr.rangeLeft m w.heap.size)
  case atStart => exact ⟨_, _, [], HR0, World.ownsRow_nil _ _ _ _, Col.start HD.out q, fun _ => rfl, by simp; omega, HG0⟩
  case round =>
    obtain ⟨left, cnt, ss, HR, HO, HC, HN, hcs, HB⟩ := hrel
    have hrg := HR.out
    obtain ⟨aS, cS, rfl⟩ := own_slice HO.out
    go_wp2_with (first | (at_next; refine wpList_next_ranges _ rfl _ rfl 3 law3 svElem (Value.int .i64) (fun s : SV => .agg s.cells.toArray) (fun key kl hk => by obtain ⟨x, rfl, _⟩ := Maps.keyOf_int_inv Ybaf.underlying3 hk; exact ⟨x, rfl⟩) (fun v y hv => by obtain ⟨c, rfl, _⟩ := svElem_inv hv; exact ⟨c, rfl⟩) m w.heap.size n D left cnt rfl hrg ?_ ?_) | fail)
    · intro hc0 hl0
      have hlen : ss.length ≤ 4096 := by omega
      have CS : Hid (Calls Ybaf.prog 12 #[.slice aS ss.length cS, .func (.func 13) #[] #[]] wr (SortPost (w.heap.size + 1) (.slice aS ss.length cS) ss wr)) := HSO.out _ _ ss wr HO.out HN.out hlen
      have HL0 : Hid (∀ kl, left kl = false) := hl0
      clear hrg HR hcs hl0
      go_wp2_with fail
      refine Calls.mono CS.out ?_
      rintro e w2 ⟨rfl, d, hp, hd, ho, hg⟩
      have HE : Hid (d = resL F f q 256) := HC.out.sorted HD.out.slot HL0.out hp hd
      have HO2 : Hid (w2.ownsRow (w.heap.size + 1) 27 3 (.slice aS ss.length cS) d.length (svRow d)) := ho
      have HB2 : Hid (Below w.heap.size w w2) := HB.out.grown hg HB.out.size (fun k hk => by have := (HO.out.lt k hk).1; omega)
      clear hp hd ho hg CS
      go_wp2
      go_ret
      exact ⟨_, _, rfl, by rw [← HE.out]; exact HO2.out, HB2.out⟩
    · intro x c kl yd yp w1 cnt1 hkey hlk hv hat hrg1 hlt hg1 hs1 hen
      obtain ⟨x', ex, rfl, hwx⟩ := Maps.keyOf_int_inv Ybaf.underlying3 hkey
      cases ex
      rw [svElem_mk] at hv
      cases hv
      have hhas := has_true_of_atKey hat
      obtain ⟨i, hi, hxi⟩ := HD.out.keys _ hhas
      obtain rfl : x = f + i := by simpa using hxi
      have hFi : F i = some c := by
        rw [HD.out.has i hi] at hhas
        obtain ⟨s, hs⟩ := Option.isSome_iff_exists.1 hhas
        rw [hs, svD_inj ((HD.out.at_ i s hi hs (svD c)).symm.trans (hat _))]
      have HST : Hid (Col F f q (fun z => left z && !z.sameKey (.int .i64 (f + (i : Int)))) (if q ≤ c.slot then ss ++ [c] else ss)) := HC.out.step HD.out.slot hi hFi hlk
      have hne := row_ne_iter' HO.out HR.out
      have HO1 : Hid (w1.ownsRow (w.heap.size + 1) 27 3 (.slice aS ss.length cS) ss.length (svRow ss)) := HO.out.kept hg1 (.inr (Ne.symm hne.1))
      have HR1 : Hid (w1.ranges Ybaf.prog 3 svElem m w.heap.size n D (fun z => left z && !z.sameKey (.int .i64 (f + (i : Int)))) cnt1) := hrg1
      have HB1 : Hid (Below w.heap.size w w1) := HB.out.grown hg1 HB.out.size (fun k hk => by cases hk; exact Nat.le_refl _)
      have HM : Hid (wr.rangeLeft m w.heap.size = cnt) := HR.out.left_eq
      have hsz1 : w.heap.size + 1 ≤ w1.heap.size := by have := HR1.out.lt; omega
      have hlen : ss.length + 1 ≤ 4097 := by omega
      clear hrg HR HC HB hg1 hs1 hrg1 hat hhas hlk hkey hFi hxi
      obtain ⟨cs, cb, cv⟩ := c
      simp only [SV.cells] at hen HST ⊢
      by_cases hq : q ≤ cs
      · rw [if_pos hq] at HST
        obtain ⟨i27, p1, p2, p3, p4⟩ := info_parts info27
        have hown := HO1.out
        go_wp2_with (first | (at_builtin; refine wpList_append_own _ rfl (.tmp 21) (.tmp 23) 35 rfl (w.heap.size + 1) 27 i27 _ 3 32 Ybaf.underlying35 p1 p2 p3 p4 rfl (by decide) _ _ _ rfl ((hown.alloc _).alloc _) ⟨w1.heap.size + 1, 0, none⟩ 1 1 [.int .i64 cs, .int .i64 cb, .string cv] rfl rfl ?_ ?_ ?_ ?_ ?_ ?_) | fail)
        · exact three_new2 _ _ _ _ _ _
        · exact SV.cells_one ⟨cs, cb, cv⟩
        · unfold maxLen; omega
        · omega
        · simp; omega
        intro v7 w5 ho5 hg5 _
        have ho6 : w5.ownsRow (w.heap.size + 1) 27 3 v7 (ss ++ [(⟨cs, cb, cv⟩ : SV)]).length (svRow (ss ++ [(⟨cs, cb, cv⟩ : SV)])) := by
          rw [svRow_append, svRow_one]; simpa [SV.cells] using ho5
        have HO5 : Hid (w5.ownsRow (w.heap.size + 1) 27 3 v7 (ss ++ [(⟨cs, cb, cv⟩ : SV)]).length (svRow (ss ++ [(⟨cs, cb, cv⟩ : SV)]))) := ho6
        have hne1 := row_ne_iter' HO1.out HR1.out
        have HR5 : Hid (w5.ranges Ybaf.prog 3 svElem m w.heap.size n D (fun z => left z && !z.sameKey (.int .i64 (f + (i : Int)))) cnt1) := ((HR1.out.alloc _).alloc _).kept hg5 hne1.2 hne1.1
        have HB5 : Hid (Below w.heap.size w w5) := ((HB1.out.alloc HB1.out.size _).alloc (by have := HB1.out.size; simp; omega) _).grown hg5 (by have := HB1.out.size; simp; omega) (fun k hk => by have := (HO1.out.lt k hk).1; omega)
        obtain ⟨a7, c7, rfl⟩ := own_slice ho5
        have HSL : Hid ((ss ++ [(⟨cs, cb, cv⟩ : SV)]).length = ss.length + 1) := (by simp : (ss ++ [(⟨cs, cb, cv⟩ : SV)]).length = ss.length + 1)
        clear ho5 ho6 hg5 p1 p2 p3 p4 hown HO1 HR1 HB1 hne1 hne i27
        go_wp2
        go_roundw
        case rel => exact ⟨_, cnt1, ss ++ [⟨cs, cb, cv⟩], HR5, HO5, HST, fun h => absurd h (by simp), by rw [HSL.out]; omega, HB5⟩
        case measure => rw [HR5.out.left_eq, HM.out]; exact hlt
      · rw [if_neg hq] at HST
        have hq' : ¬ (cs ≥ q) := hq
        go_wp2
        go_roundw
        case rel => exact ⟨_, cnt1, ss, HR1.out.alloc _, HO1.out.alloc _, HST, HN, by omega, HB1.out.alloc HB1.out.size _⟩
        case measure => rw [(HR1.out.alloc _).left_eq, HM.out]; exact hlt
end Go.Proofs.YbulkbivkFmt
