/-
  THE WALK OF LawS2987AAny (function 4).
-/
import Derived.Test.YbulkbivkStA
namespace Go.Proofs.Ybulkbivk
open Go.RowKit
attribute [local go_sem ↓] Go.wp_at_zero Go.wp_at_succ
set_option linter.unusedVariables false

/-- The values of the 2a's of the ballot. -/
structure InvN (q : Int) (S : List Msg) (X : List ByteArray) : Prop where
  sorted : SortedM S
  vals : ∀ s, s ∈ X ↔ ∃ m ∈ S, m.kind = 3 ∧ m.bal = q ∧ m.val = s

theorem InvN.start (q : Int) : InvN q [] [] := ⟨sorted_nil, by simp⟩
theorem InvN.hit {q : Int} {S : List Msg} {X : List ByteArray} (h : InvN q S X) {m : Msg} (h3 : m.kind = 3) (hq : m.bal = q) : InvN q (addL m S) (X ++ [m.val]) := by
  refine ⟨sorted_addL m S h.sorted, fun s => ?_⟩
  simp only [List.mem_append, List.mem_singleton, h.vals s, mem_addL]
  constructor
  · rintro (⟨x, hx, r⟩ | rfl)
    · exact ⟨x, .inl hx, r⟩
    · exact ⟨m, .inr rfl, h3, hq, rfl⟩
  · rintro ⟨x, hx | rfl, r1, r2, r3⟩
    · exact .inl ⟨x, hx, r1, r2, r3⟩
    · exact .inr r3.symm
theorem InvN.skip {q : Int} {S : List Msg} {X : List ByteArray} (h : InvN q S X) {m : Msg} (hn : ¬ (m.kind = 3 ∧ m.bal = q)) : InvN q (addL m S) X := by
  refine ⟨sorted_addL m S h.sorted, fun s => ?_⟩
  simp only [h.vals s, mem_addL]
  constructor
  · rintro ⟨x, hx, r⟩
    exact ⟨x, .inl hx, r⟩
  · rintro ⟨x, hx | rfl, r1, r2, r3⟩
    · exact ⟨x, hx, r1, r2, r3⟩
    · exact absurd ⟨r1, r2⟩ hn
theorem InvN.some {q : Int} {S : List Msg} {X : List ByteArray} (h : InvN q S X) {m : Msg} (hp : prop1 S q = some m) : m.val ∈ X := by
  have h1 := List.mem_of_find?_eq_some hp
  have h2' : decide (m.kind = 3 ∧ m.bal = q) = true := List.find?_some (p := fun m : Msg => decide (m.kind = 3 ∧ m.bal = q)) hp
  have h2 := of_decide_eq_true h2'
  exact (h.vals _).2 ⟨m, h1, h2.1, h2.2, rfl⟩
theorem InvN.none {q : Int} {S : List Msg} {X : List ByteArray} (h : InvN q S X) (hp : prop1 S q = none) : X = [] := by
  apply List.eq_nil_iff_forall_not_mem.2
  intro s hs
  obtain ⟨m, hm, h1, h2, _⟩ := (h.vals s).1 hs
  have := List.find?_eq_none.1 hp m hm
  exact this (decide_eq_true ⟨h1, h2⟩)

theorem one_new2 (W : World) (o : Obj) (v : Value) (t : TypeId) : ∀ j u, [v][j]? = some u → ((W.alloc o).alloc (.cells #[v] t)).cell? ((⟨W.heap.size + 1, 0, none⟩ : Addr).add j) = some u := by
  have := one_new (W.alloc o) v t
  simpa using this

set_option maxHeartbeats 8000000 in
set_option maxRecDepth 100000 in
theorem any_walk (ad : Option Addr) (len cap : Nat) (E : List InA) (q : Int) (w : World) (hE : RowA w ad len E) (hq0 : -128 ≤ q) (hq1 : q ≤ 127) (hlen : len ≤ 1024) :
    Calls Yba.prog 4 #[.slice ad len cap, .int .i8 q] w fun e w' => e = .returned (.bool true) ∧ Below w.heap.size w w' := by
  obtain ⟨hEl, hok, hcells⟩ := hE
  have HEL : Hid (E.length = len) := hEl
  have HOK : Hid (∀ e ∈ E, e.ok) := hok
  have HCE : Hid _ := hcells
  clear hEl hok hcells
  have hl : (len : Int) ≤ 1024 := by omega
  have hd : decide ((1024 : Int) < (len : Int)) = false := decide_eq_false (by omega)
  have CM : Hid (∀ (k a b vb v : Int) (W : World), (0 ≤ k ∧ k ≤ 255) → (0 ≤ a ∧ a ≤ 255) → (-128 ≤ b ∧ b ≤ 127) → (-128 ≤ vb ∧ vb ≤ 127) → (0 ≤ v ∧ v ≤ 255) →
    Calls Yba.prog 7 #[.agg #[.int .u8 k, .int .u8 a, .int .i8 b, .int .i8 vb, .int .u8 v]] W (MsgPost W)) := fun k a b vb v W h1 h2 h3 h4 h5 => msg_calls k a b vb v W h1 h2 h3 h4 h5
  go_enter Yba.func4, Yba.ntmps4
  go_wp2_with fail
  go_loopw [6, 19] (fun s6 s19 wr => ∃ (k : Nat) (S : List Msg) (X : List ByteArray) (vK : Value), k ≤ len ∧ s19 = .int .i64 k ∧
      Hid (StA w wr S [] X vK (.slice none 0 0) s6) ∧ Hid (InvN q S X) ∧ S.length ≤ k ∧ X.length ≤ k) (fun _ i _ => len - (intOf i).toNat)
  case atStart => exact ⟨0, [], [], _, Nat.zero_le _, rfl, StA.start w, InvN.start q, Nat.le_refl _, Nat.le_refl _⟩
  case round =>
    obtain ⟨k, S, X, vK, hk, rfl, HS, HI, hSl, hXl⟩ := hrel
    by_cases hlt : k < len
    · obtain ⟨b0, off0, rfl, hb0w, hc⟩ := HCE.out (by omega)
      obtain ⟨e, he⟩ : ∃ e, E[k]? = some e := ⟨_, List.getElem?_eq_getElem (by rw [HEL.out]; omega)⟩
      obtain ⟨c0, c1, c2, c3, c4⟩ := hc k e he
      obtain ⟨r0, r1, r2, r3, r4⟩ := HOK.out e (List.mem_of_getElem? he)
      have hbr := HS.out.below
      have c0' := (hbr.cell (p := ⟨b0, off0 + k * 5, none⟩) hb0w).trans c0
      have c1' := (hbr.cell (p := ⟨b0, off0 + k * 5 + 1, none⟩) hb0w).trans c1
      have c2' := (hbr.cell (p := ⟨b0, off0 + k * 5 + 2, none⟩) hb0w).trans c2
      have c3' := (hbr.cell (p := ⟨b0, off0 + k * 5 + 3, none⟩) hb0w).trans c3
      have c4' := (hbr.cell (p := ⟨b0, off0 + k * 5 + 4, none⟩) hb0w).trans c4
      obtain ⟨ek, ea, eb, evb, ev⟩ := e
      simp only at c0' c1' c2' c3' c4' r0 r1 r2 r3 r4
      have hki : (k : Int) < (len : Int) := by omega
      have hC := fun W => CM.out ek ea eb evb ev W r0 r1 r2 r3 r4
      have HC : Hid (∀ W, Calls Yba.prog 7 #[.agg #[.int .u8 ek, .int .u8 ea, .int .i8 eb, .int .i8 evb, .int .u8 ev]] W (MsgPost W)) := hC
      clear c0 c1 c2 c3 c4 hc he hbr r0 r1 r2 r3 r4 hC
      go_wp2_with fail
      refine Calls.mono (HC.out _) ?_
      rintro e w1 ⟨m, rfl, hb1⟩
      obtain ⟨mk, ma, mb, mv, ms⟩ := m
      simp only [Msg.cells]
      have HS1 : Hid (StA w w1 S [] X vK (.slice none 0 0) _) := HS.out.later (((Below.refl _ _).alloc (Nat.le_refl _) _).trans (hb1.mono (by simp)))
      clear hb1 HC CM HS c0' c1' c2' c3' c4'
      have hal := (addL_length_le ⟨mk, ma, mb, mv, ms⟩ S).2
      have hSl' : (addL ⟨mk, ma, mb, mv, ms⟩ S).length ≤ k + 1 := by omega
      obtain ⟨aX, cX, gX, rfl, nX, mX, _, _⟩ := own_cells HS1.out.vals
      clear hal
      by_cases h3 : mk = 3
      · by_cases hmq : mb = q
        · subst h3
          subst hmq
          obtain ⟨i9, p1, p2, p3, p4⟩ := info_parts info9
          have HS2 : Hid (StA w (w1.alloc (.cells #[.int .i64 3, .int .i64 ma, .int .i64 mb, .int .i64 mv, .string ms] 33)) S [] X vK (.slice none 0 0) _) := HS1.out.later ((Below.refl _ _).alloc (Nat.le_refl _) _)
          have hown := HS2.out.vals
          have hbase : w.heap.size + 1 ≤ w1.heap.size := lt_of_block HS1.out.box
          have t1 : (mb == mb) = true := beq_self_eq_true _
          go_wp2_with (at_builtin; refine wpList_append_own _ rfl (.tmp 35) (.tmp 38) 27 rfl (w.heap.size + 1) 9 i9 (.string ⟨#[]⟩) 1 16 Yba.underlying27 p1 p2 p3 p4 rfl (by decide) _ _ _ rfl (hown.alloc _) ⟨w1.heap.size + 1, 0, none⟩ 1 1 [.string ms] rfl rfl ?_ ?_ ?_ ?_ ?_ ?_)
          any_goals (first | exact one_new2 _ _ _ _ | exact one_one rfl | rfl | (unfold maxLen; omega) | omega | (simp; omega))
          intro vX w5 ho5 hg5 _
          have HS5 : Hid (StA w w5 S [] (X ++ [ms]) vK (.slice none 0 0) vX) := (HS2.out.later ((Below.refl _ _).alloc (Nat.le_refl _) _)).appX (by simpa using ho5) hg5
          have B5 : Hid (w5.heap[w1.heap.size]? = some (.cells #[.int .i64 3, .int .i64 ma, .int .i64 mb, .int .i64 mv, .string ms] 33 (0, 0))) :=
            grown_block (hown.alloc _) hg5 (by rw [Below.heap_alloc _ _ _ (by simp)]; exact heap_alloc_new _ _) (by decide)
          have y0 : w5.cell? ⟨w1.heap.size, 0, none⟩ = some (.int .i64 3) := by simp [World.cell?, B5.out]
          have y1 : w5.cell? ⟨w1.heap.size, 1, none⟩ = some (.int .i64 ma) := by simp [World.cell?, B5.out]
          have y2 : w5.cell? ⟨w1.heap.size, 2, none⟩ = some (.int .i64 mb) := by simp [World.cell?, B5.out]
          have y3 : w5.cell? ⟨w1.heap.size, 3, none⟩ = some (.int .i64 mv) := by simp [World.cell?, B5.out]
          have y4 : w5.cell? ⟨w1.heap.size, 4, none⟩ = some (.string ms) := by simp [World.cell?, B5.out]
          obtain ⟨a9, d9, rfl⟩ := own_slice ho5
          have CA : Hid (Calls Yba.prog 8 #[.pointer (some ⟨w.heap.size, 0, none⟩), .agg #[.int .i64 3, .int .i64 ma, .int .i64 mb, .int .i64 mv, .string ms]] w5 (AddPost (w.heap.size + 1) vK (addL ⟨3, ma, mb, mv, ms⟩ S) w.heap.size 0 w5)) :=
            HS5.out.addCall (by omega) HI.out.sorted ⟨3, ma, mb, mv, ms⟩
          have HI2 : Hid (InvN mb (addL ⟨3, ma, mb, mv, ms⟩ S) (X ++ [ms])) := HI.out.hit (m := ⟨3, ma, mb, mv, ms⟩) rfl rfl
          clear ho5 hg5 p1 p2 p3 p4 hown HS2 B5 HS1 HI i9
          go_wp2_with fail
          refine Calls.mono CA.out ?_
          intro e w6 hp
          obtain ⟨rfl, _, vK6, hs6⟩ := HS5.out.add hp
          have HS6 : Hid (StA w w6 (addL ⟨3, ma, mb, mv, ms⟩ S) [] (X ++ [ms]) vK6 (.slice none 0 0) _) := hs6
          clear hp hs6 CA HS5 y0 y1 y2 y3 y4
          go_wp2
          go_roundw
          case rel => exact ⟨k + 1, _, X ++ [ms], vK6, by omega, by go_num, HS6, HI2, hSl', by simp; omega⟩
          case measure => simp [intOf]; omega
        · have t1 : (mb == q) = false := by rw [beq_eq_false_iff_ne]; exact hmq
          subst h3
          have HI2 : Hid (InvN q (addL ⟨3, ma, mb, mv, ms⟩ S) X) := HI.out.skip (m := ⟨3, ma, mb, mv, ms⟩) (fun h => hmq h.2)
          have HS2 : Hid (StA w (w1.alloc (.cells #[.int .i64 3, .int .i64 ma, .int .i64 mb, .int .i64 mv, .string ms] 33)) S [] X vK (.slice none 0 0) _) := HS1.out.later ((Below.refl _ _).alloc (Nat.le_refl _) _)
          have CA : Hid (Calls Yba.prog 8 #[.pointer (some ⟨w.heap.size, 0, none⟩), .agg #[.int .i64 3, .int .i64 ma, .int .i64 mb, .int .i64 mv, .string ms]] _ (AddPost (w.heap.size + 1) vK (addL ⟨3, ma, mb, mv, ms⟩ S) w.heap.size 0 _)) :=
            HS2.out.addCall (by omega) HI.out.sorted ⟨3, ma, mb, mv, ms⟩
          clear hmq HI HS1
          go_wp2_with fail
          refine Calls.mono CA.out ?_
          intro e w6 hp
          obtain ⟨rfl, _, vK6, hs6⟩ := HS2.out.add hp
          have HS6 : Hid (StA w w6 (addL ⟨3, ma, mb, mv, ms⟩ S) [] X vK6 (.slice none 0 0) _) := hs6
          clear hp hs6 CA HS2
          go_wp2
          go_roundw
          case rel => exact ⟨k + 1, _, X, vK6, by omega, by go_num, HS6, HI2, hSl', by omega⟩
          case measure => simp [intOf]; omega
      · have t1 : (mk == 3) = false := by rw [beq_eq_false_iff_ne]; exact h3
        have HI2 : Hid (InvN q (addL ⟨mk, ma, mb, mv, ms⟩ S) X) := HI.out.skip (m := ⟨mk, ma, mb, mv, ms⟩) (fun h => h3 h.1)
        have HS2 : Hid (StA w (w1.alloc (.cells #[.int .i64 mk, .int .i64 ma, .int .i64 mb, .int .i64 mv, .string ms] 33)) S [] X vK (.slice none 0 0) _) := HS1.out.later ((Below.refl _ _).alloc (Nat.le_refl _) _)
        have CA : Hid (Calls Yba.prog 8 #[.pointer (some ⟨w.heap.size, 0, none⟩), .agg #[.int .i64 mk, .int .i64 ma, .int .i64 mb, .int .i64 mv, .string ms]] _ (AddPost (w.heap.size + 1) vK (addL ⟨mk, ma, mb, mv, ms⟩ S) w.heap.size 0 _)) :=
          HS2.out.addCall (by omega) HI.out.sorted ⟨mk, ma, mb, mv, ms⟩
        clear h3 HI HS1
        go_wp2_with fail
        refine Calls.mono CA.out ?_
        intro e w6 hp
        obtain ⟨rfl, _, vK6, hs6⟩ := HS2.out.add hp
        have HS6 : Hid (StA w w6 (addL ⟨mk, ma, mb, mv, ms⟩ S) [] X vK6 (.slice none 0 0) _) := hs6
        clear hp hs6 CA HS2
        go_wp2
        go_roundw
        case rel => exact ⟨k + 1, _, X, vK6, by omega, by go_num, HS6, HI2, hSl', by omega⟩
        case measure => simp [intOf]; omega
    · obtain rfl : k = len := by omega
      obtain ⟨aK, cK, gK, rfl, _, _, hcK, _, _, _⟩ := own_msgs HS.out.known
      obtain ⟨aX, cX, gX, rfl, nX, mX, hX, kX⟩ := own_cells HS.out.vals
      have x0 : wr.cell? ⟨w.heap.size, 0, none⟩ = some (.slice aK S.length cK) := by simp [World.cell?, HS.out.box]
      have CP : Hid (Calls Yba.prog 10 #[.slice aK S.length cK, .int .i64 q] wr (PropPost S q wr)) := proposal_calls _ _ S q wr (by omega) HI.out.sorted HS.out.known
      have CV : Hid (∀ W, Below wr.heap.size wr W → Calls Yba.prog 13 #[.slice aK S.length cK, .int .i64 q] W (VotPost S q W)) := fun W hW => votable_calls _ _ S q W (by omega) HI.out.sorted (own_below HS.out.known hW)
      have CC : Hid (∀ (s : ByteArray) (W : World), Below wr.heap.size wr W → Calls Yba.prog 12 #[.slice aX X.length cX, .string s] W (ConPost X s W)) := fun s W hW => contains_calls aX gX X.length cX X s W rfl (by omega) hX (fun j x hx => cell_later hW (kX j x hx))
      have HB : Hid (Below w.heap.size w wr) := HS.out.below
      have hge : ¬ ((k : Int) < (k : Int)) := by omega
      have hXi : (X.length : Int) ≤ 1024 := by omega
      clear HS hX kX hlt hk CM HEL HOK HCE
      go_wp2_with fail
      refine Calls.mono CP.out ?_
      rintro e w2 ⟨hb2, ⟨m, hm, rfl⟩ | ⟨hm, rfl⟩⟩
      · have hmX := HI.out.some hm
        have hpos : (0 : Int) < (X.length : Int) := by have := List.length_pos_of_mem hmX; omega
        obtain ⟨nX', hnX⟩ : ∃ n, n = X.length := ⟨_, rfl⟩
        rw [← hnX] at hpos hXi CC ⊢
        have hdp : (!decide (0 < nX')) = false := by rw [decide_eq_true (by omega)]; rfl
        clear hnX nX
        have x2 := cell_later hb2 x0
        have HB2 : Hid (Below wr.heap.size wr w2) := hb2
        have HM : Hid (prop1 S q = some m ∧ m.val ∈ X) := ⟨hm, hmX⟩
        clear hm hmX x0 CP HI hb2
        go_wp2_with fail
        refine Calls.mono (CC.out _ _ HB2.out) ?_
        rintro e w3 ⟨b, rfl, hbt, rfl⟩
        obtain rfl := hbt.2 HM.out.2
        clear hbt CC
        go_wp2_with fail
        refine Calls.mono (CV.out _ HB2.out) ?_
        rintro e w4 ⟨hb4, ⟨m', hm', rfl⟩ | ⟨hm', _⟩⟩
        · have hmm := HM.out.1
          rw [hm'] at hmm
          cases hmm
          have HF : Hid (Below w.heap.size w w4) := HB.out.trans ((HB2.out.trans (hb4.mono HB2.out.size)).mono HB.out.size)
          have ts : (m.val.toList == m.val.toList) = true := beq_self_eq_true _
          clear hm' hb4 CV HM HB2 HB
          go_wp2
          go_ret
          exact ⟨rfl, HF.out⟩
        · rw [HM.out.1] at hm'; cases hm'
      · have hnil := HI.out.none hm
        subst hnil
        have x2 := cell_later hb2 x0
        have HB2 : Hid (Below wr.heap.size wr w2) := hb2
        have HM : Hid (prop1 S q = none) := hm
        clear hm x0 CP HI hb2 CC
        go_wp2_with fail
        refine Calls.mono (CV.out _ HB2.out) ?_
        rintro e w4 ⟨hb4, ⟨m', hm', rfl⟩ | ⟨hm', p, rfl⟩⟩
        · rw [HM.out] at hm'; cases hm'
        · have HF : Hid (Below w.heap.size w w4) := HB.out.trans ((HB2.out.trans (hb4.mono HB2.out.size)).mono HB.out.size)
          clear hm' hb4 CV HM HB2 HB
          go_wp2
          go_ret
          exact ⟨rfl, HF.out⟩
end Go.Proofs.Ybulkbivk
