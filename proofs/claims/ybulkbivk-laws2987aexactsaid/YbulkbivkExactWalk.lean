/-
  THE WALK OF LawS2987AExact (function 3).
-/
import Derived.Test.YbulkbivkClone
import Derived.Test.YbulkbivkAnyWalk
namespace Go.Proofs.Ybulkbivk
open Go.RowKit
attribute [local go_sem ↓] Go.wp_at_zero Go.wp_at_succ
set_option linter.unusedVariables false

/-- Is there one of the ballot? -/
def dupF (l : List Msg) (b : Int) : Bool := l.any fun x => x.bal == b
/-- The last one of the ballot. -/
def scanF (l : List Msg) (q : Int) : Bool × ByteArray := l.foldl (fun a x => if x.bal = q then (true, x.val) else a) (false, ⟨#[]⟩)

theorem take_next {T : List Msg} {j : Nat} {x : Msg} (h : T[j]? = some x) : T.take (j + 1) = T.take j ++ [x] := by
  obtain ⟨hj, rfl⟩ := List.getElem?_eq_some_iff.1 h
  rw [List.take_succ_eq_append_getElem hj]
theorem dup_step {T : List Msg} {j : Nat} {x : Msg} {b : Int} (h : T[j]? = some x) : dupF (T.take (j + 1)) b = (dupF (T.take j) b || (x.bal == b)) := by
  rw [take_next h]; simp [dupF]
theorem scan_step {T : List Msg} {j : Nat} {x : Msg} {q : Int} (h : T[j]? = some x) : scanF (T.take (j + 1)) q = if x.bal = q then (true, x.val) else scanF (T.take j) q := by
  rw [take_next h]; simp [scanF]

structure InvE (S T : List Msg) : Prop where
  sorted : SortedM S
  mem : ∀ m, m ∈ T ↔ m ∈ S ∧ m.kind = 3
  apart : T.Pairwise fun x y => x.bal ≠ y.bal

theorem InvE.start : InvE [] [] := ⟨sorted_nil, by simp, List.Pairwise.nil⟩
theorem InvE.skip {S T : List Msg} (h : InvE S T) {m : Msg} (hk : ¬ m.kind = 3) : InvE (addL m S) T := by
  refine ⟨sorted_addL m S h.sorted, fun x => ?_, h.apart⟩
  rw [h.mem x, mem_addL]
  constructor
  · rintro ⟨a, b⟩; exact ⟨.inl a, b⟩
  · rintro ⟨a | rfl, b⟩
    · exact ⟨a, b⟩
    · exact absurd b hk
theorem InvE.new {S T : List Msg} (h : InvE S T) {m : Msg} (hk : m.kind = 3) (hd : dupF T m.bal = false) : InvE (addL m S) (T ++ [m]) := by
  refine ⟨sorted_addL m S h.sorted, fun x => ?_, ?_⟩
  · rw [List.mem_append, List.mem_singleton, h.mem x, mem_addL]
    constructor
    · rintro (⟨a, b⟩ | rfl)
      · exact ⟨.inl a, b⟩
      · exact ⟨.inr rfl, hk⟩
    · rintro ⟨a | rfl, b⟩
      · exact .inl ⟨a, b⟩
      · exact .inr rfl
  · rw [List.pairwise_append]
    refine ⟨h.apart, List.pairwise_singleton _ _, fun x hx y hy => ?_⟩
    rw [List.mem_singleton] at hy
    subst hy
    intro he
    have : dupF T y.bal = true := by
      unfold dupF; rw [List.any_eq_true]; exact ⟨x, hx, by rw [he]; exact beq_self_eq_true _⟩
    rw [hd] at this; cases this

theorem scan_none {q : Int} : ∀ (T : List Msg) (a : Bool × ByteArray), (∀ x ∈ T, x.bal ≠ q) → T.foldl (fun a x => if x.bal = q then (true, x.val) else a) a = a
  | [], _, _ => rfl
  | x :: T, a, h => by
    simp only [List.foldl_cons, if_neg (h x (List.mem_cons_self ..))]
    exact scan_none T a fun y hy => h y (List.mem_cons_of_mem _ hy)

theorem scan_some {q : Int} : ∀ (T : List Msg) (a : Bool × ByteArray) (m : Msg), T.Pairwise (fun x y => x.bal ≠ y.bal) → m ∈ T → m.bal = q → T.foldl (fun a x => if x.bal = q then (true, x.val) else a) a = (true, m.val)
  | [], _, _, _, h, _ => by cases h
  | x :: T, a, m, hp, hm, hq => by
    obtain ⟨h1, h2⟩ := List.pairwise_cons.1 hp
    simp only [List.foldl_cons]
    by_cases hx : x.bal = q
    · have hno : ∀ y ∈ T, y.bal ≠ q := fun y hy he => h1 y hy (hx.trans he.symm)
      rw [if_pos hx, scan_none T _ hno]
      rcases List.mem_cons.1 hm with rfl | hm
      · rfl
      · exact absurd hq (hno m hm)
    · rw [if_neg hx]
      rcases List.mem_cons.1 hm with rfl | hm
      · exact absurd hq hx
      · exact scan_some T a m h2 hm hq

theorem InvE.some {S T : List Msg} (h : InvE S T) {q : Int} {m : Msg} (hp : prop1 S q = some m) : scanF T q = (true, m.val) := by
  have h1 := List.mem_of_find?_eq_some hp
  have h2' : decide (m.kind = 3 ∧ m.bal = q) = true := List.find?_some (p := fun m : Msg => decide (m.kind = 3 ∧ m.bal = q)) hp
  have h2 := of_decide_eq_true h2'
  exact scan_some T _ m h.apart ((h.mem m).2 ⟨h1, h2.1⟩) h2.2
theorem InvE.none {S T : List Msg} (h : InvE S T) {q : Int} (hp : prop1 S q = none) : scanF T q = (false, ⟨#[]⟩) := by
  refine scan_none T _ fun x hx he => ?_
  obtain ⟨h1, h2⟩ := (h.mem x).1 hx
  exact List.find?_eq_none.1 hp x h1 (decide_eq_true ⟨h2, he⟩)

theorem addL_ne_nil (m : Msg) (S : List Msg) : addL m S ≠ [] := fun h => by
  have := (mem_addL m m S).2 (.inr rfl)
  rw [h] at this; cases this

set_option maxHeartbeats 8000000 in
set_option maxRecDepth 100000 in
theorem exact_walk (ad : Option Addr) (len cap : Nat) (E : List InA) (q : Int) (w : World) (hE : RowA w ad len E) (hq0 : -128 ≤ q) (hq1 : q ≤ 127) (hlen : len ≤ 1024) :
    Calls Yba.prog 3 #[.slice ad len cap, .int .i8 q] w fun e w' => e = .returned (.bool true) ∧ Below w.heap.size w w' := by
  obtain ⟨hEl, hok, hcells⟩ := hE
  have HEL : Hid (E.length = len) := hEl
  have HOK : Hid (∀ e ∈ E, e.ok) := hok
  have HCE : Hid _ := hcells
  clear hEl hok hcells
  have hl : (len : Int) ≤ 1024 := by omega
  have hd : decide ((1024 : Int) < (len : Int)) = false := decide_eq_false (by omega)
  have CM : Hid (∀ (k a b vb v : Int) (W : World), (0 ≤ k ∧ k ≤ 255) → (0 ≤ a ∧ a ≤ 255) → (-128 ≤ b ∧ b ≤ 127) → (-128 ≤ vb ∧ vb ≤ 127) → (0 ≤ v ∧ v ≤ 255) →
    Calls Yba.prog 7 #[.agg #[.int .u8 k, .int .u8 a, .int .i8 b, .int .i8 vb, .int .u8 v]] W (MsgPost W)) := fun k a b vb v W h1 h2 h3 h4 h5 => msg_calls k a b vb v W h1 h2 h3 h4 h5
  go_enter Yba.func3, Yba.ntmps3
  go_wp2_with fail
  go_loopw [6, 7, 26] (fun s6 s7 s26 wr => ∃ (k : Nat) (S T : List Msg) (vK : Value), k ≤ len ∧ s26 = .int .i64 k ∧
      Hid (StA w wr S (T.map Msg.bal) (T.map Msg.val) vK s6 s7) ∧ Hid (InvE S T) ∧ S.length ≤ k ∧ T.length ≤ k ∧ Hid (S = [] → vK = .slice none 0 0)) (fun _ _ i _ => len - (intOf i).toNat)
  case atStart => exact ⟨0, [], [], _, Nat.zero_le _, rfl, StA.start w, InvE.start, Nat.le_refl _, Nat.le_refl _, fun _ => rfl⟩
  case round =>
    obtain ⟨k, S, T, vK, hk, rfl, HS, HI, hSl, hTl, HNL⟩ := hrel
    by_cases hlt : k < len
    · obtain ⟨b0, off0, rfl, hb0w, hc⟩ := HCE.out (by omega)
      obtain ⟨e, he⟩ : ∃ e, E[k]? = some e := ⟨_, List.getElem?_eq_getElem (by rw [HEL.out]; omega)⟩
      obtain ⟨c0, c1, c2, c3, c4⟩ := hc k e he
      obtain ⟨r0, r1, r2, r3, r4⟩ := HOK.out e (List.mem_of_getElem? he)
      have hbr := HS.out.below
      have c0' := (hbr.cell (p := ⟨b0, off0 + k * 5, none⟩) hb0w).trans c0
      have c1' := (hbr.cell (p := ⟨b0, off0 + k * 5 + 1, none⟩) hb0w).trans c1
      have c2' := (hbr.cell (p := ⟨b0, off0 + k * 5 + 2, none⟩) hb0w).trans c2
      have c3' := (hbr.cell (p := ⟨b0, off0 + k * 5 + 3, none⟩) hb0w).trans c3
      have c4' := (hbr.cell (p := ⟨b0, off0 + k * 5 + 4, none⟩) hb0w).trans c4
      obtain ⟨ek, ea, eb, evb, ev⟩ := e
      simp only at c0' c1' c2' c3' c4' r0 r1 r2 r3 r4
      have hki : (k : Int) < (len : Int) := by omega
      have hC := fun W => CM.out ek ea eb evb ev W r0 r1 r2 r3 r4
      have HC : Hid (∀ W, Calls Yba.prog 7 #[.agg #[.int .u8 ek, .int .u8 ea, .int .i8 eb, .int .i8 evb, .int .u8 ev]] W (MsgPost W)) := hC
      clear c0 c1 c2 c3 c4 hc he hbr r0 r1 r2 r3 r4 hC
      go_wp2_with fail
      refine Calls.mono (HC.out _) ?_
      rintro e w1 ⟨m, rfl, hb1⟩
      obtain ⟨mk, ma, mb, mv, ms⟩ := m
      simp only [Msg.cells]
      have HS1 : Hid (StA w w1 S (T.map Msg.bal) (T.map Msg.val) vK _ _) := HS.out.later (((Below.refl _ _).alloc (Nat.le_refl _) _).trans (hb1.mono (by simp)))
      clear hb1 HC CM HS c0' c1' c2' c3' c4'
      have hal := (addL_length_le ⟨mk, ma, mb, mv, ms⟩ S).2
      have hSl' : (addL ⟨mk, ma, mb, mv, ms⟩ S).length ≤ k + 1 := by omega
      have HNN : Hid (addL ⟨mk, ma, mb, mv, ms⟩ S ≠ []) := addL_ne_nil _ _
      obtain ⟨aB, cB, gB, rfl, nB, mB, hB, kB⟩ := own_cells HS1.out.bals
      obtain ⟨aX, cX, gX, rfl, nX, mX, _, _⟩ := own_cells HS1.out.vals
      simp only [List.length_map] at nB nX hB ⊢
      have KB : Hid (∀ j x, T[j]? = some x → w1.cell? ⟨gB, j, none⟩ = some (.int .i64 x.bal)) := fun j x hj => kB j x.bal (by rw [List.getElem?_map, hj]; rfl)
      have HBA : Hid (0 < T.length → aB = some ⟨gB, 0, none⟩) := hB
      have hTi : (T.length : Int) ≤ 1024 := by omega
      clear hal hB kB
      by_cases h3 : mk = 3
      · subst h3
        obtain ⟨W2, hW2⟩ : ∃ W2, W2 = w1.alloc (.cells #[.int .i64 3, .int .i64 ma, .int .i64 mb, .int .i64 mv, .string ms] 33) := ⟨_, rfl⟩
        have hN2 : Below w1.heap.size w1 W2 := by rw [hW2]; exact (Below.refl _ _).alloc (Nat.le_refl _) _
        have HS2 : Hid (StA w W2 S (T.map Msg.bal) (T.map Msg.val) vK (.slice aB (T.map Msg.bal).length cB) (.slice aX (T.map Msg.val).length cX)) := HS1.out.later hN2
        have HB2 : Hid (W2.heap[w1.heap.size]? = some (.cells #[.int .i64 3, .int .i64 ma, .int .i64 mb, .int .i64 mv, .string ms] 33 (0, 0))) := by rw [hW2]; exact heap_alloc_new _ _
        have KB2 : Hid (∀ j x, T[j]? = some x → W2.cell? ⟨gB, j, none⟩ = some (.int .i64 x.bal)) := fun j x hj => cell_later hN2 (KB.out j x hj)
        go_wp2_with fail
        rw [← hW2]
        clear hW2 hN2 KB HS1
        go_loopw [11, 37] (fun d i wi => ∃ (j : Nat), j ≤ T.length ∧ d = .bool (dupF (T.take j) mb) ∧ i = .int .i64 j ∧ wi = W2) (fun _ i _ => T.length - (intOf i).toNat)
        case atStart => exact ⟨0, Nat.zero_le _, rfl, rfl, rfl⟩
        case round =>
          obtain ⟨j, hj, rfl, rfl, hwi⟩ := hrel
          have hwi' := hwi.symm
          clear hwi
          subst hwi'
          have y2 : W2.cell? ⟨w1.heap.size, 2, none⟩ = some (.int .i64 mb) := by simp [World.cell?, HB2.out]
          by_cases hjl : j < T.length
          · obtain ⟨x, hx⟩ : ∃ x, T[j]? = some x := ⟨_, List.getElem?_eq_getElem hjl⟩
            have z1 := KB2.out j x hx
            obtain rfl := HBA.out (by omega)
            have hji : (j : Int) < (T.length : Int) := by omega
            have HD : Hid (dupF (T.take (j + 1)) mb = (dupF (T.take j) mb || (x.bal == mb))) := dup_step hx
            generalize hxb : x.bal = xb at z1 HD
            clear hxb hx
            generalize dupF (T.take j) mb = dj at HD ⊢
            by_cases e1 : xb = mb
            · have e1' : (xb == mb) = true := by rw [beq_iff_eq]; exact e1
              have HD2 : Hid (dupF (T.take (j + 1)) mb = true) := by show dupF _ _ = _; rw [HD.out, e1']; exact Bool.or_true _
              clear e1
              go_wp2
              go_roundw
              case rel => exact ⟨j + 1, by omega, by rw [HD2.out], by go_num, by trivial⟩
              case measure => simp [intOf]; omega
            · have e1' : (xb == mb) = false := by rw [beq_eq_false_iff_ne]; exact e1
              have HD2 : Hid (dupF (T.take (j + 1)) mb = dj) := by show dupF _ _ = _; rw [HD.out, e1']; exact Bool.or_false _
              clear e1
              go_wp2
              go_roundw
              case rel => exact ⟨j + 1, by omega, by rw [HD2.out], by go_num, by trivial⟩
              case measure => simp [intOf]; omega
          · obtain rfl : j = T.length := by omega
            rw [List.take_length]
            have hjn : ¬ ((T.length : Int) < (T.length : Int)) := by omega
            have HSRT : Hid (SortedM S) := HI.out.sorted
            cases hdup : dupF T mb
            · have HI2 : Hid (InvE (addL ⟨3, ma, mb, mv, ms⟩ S) (T ++ [⟨3, ma, mb, mv, ms⟩])) := HI.out.new (m := ⟨3, ma, mb, mv, ms⟩) rfl hdup
              obtain ⟨i3, p1, p2, p3, p4⟩ := info_parts info3
              have hown6 := HS2.out.bals
              simp only [List.length_map] at hown6
              have hbase : w.heap.size + 1 ≤ W2.heap.size := lt_of_block HS2.out.box
              clear hdup HI KB2 HBA hj hjl
              go_wp2_with (at_builtin; refine wpList_append_own _ rfl (.tmp 47) (.tmp 50) 26 rfl (w.heap.size + 1) 3 i3 (.int .i64 0) 1 8 Yba.underlying26 p1 p2 p3 p4 rfl (by decide) _ _ _ rfl (hown6.alloc _) ⟨W2.heap.size, 0, none⟩ 1 1 [.int .i64 mb] rfl rfl ?_ ?_ ?_ ?_ ?_ ?_)
              any_goals (first | exact one_new _ _ _ | exact one_one rfl | rfl | (unfold maxLen; omega) | omega | (simp; omega))
              intro v6 w5 ho5 hg5 _
              have HS5 : Hid (StA w w5 S (T.map Msg.bal ++ [mb]) (T.map Msg.val) vK v6 (.slice aX (T.map Msg.val).length cX)) := (HS2.out.later ((Below.refl _ _).alloc (Nat.le_refl _) _)).appB (by simpa using ho5) (by simpa using hg5)
              have B5 : Hid (w5.heap[w1.heap.size]? = some (.cells #[.int .i64 3, .int .i64 ma, .int .i64 mb, .int .i64 mv, .string ms] 33 (0, 0))) :=
                grown_block (hown6.alloc _) hg5 (by rw [Below.heap_alloc _ _ _ (lt_of_block HB2.out)]; exact HB2.out) (by decide)
              have hbase5 : w.heap.size + 1 ≤ w5.heap.size := lt_of_block HS5.out.box
              have y4 : w5.cell? ⟨w1.heap.size, 4, none⟩ = some (.string ms) := by simp [World.cell?, B5.out]
              obtain ⟨b6, d6, rfl⟩ := own_slice ho5
              clear ho5 hg5 p1 p2 p3 p4 hown6 HS2 HB2 hbase i3 y2
              obtain ⟨i9, p1, p2, p3, p4⟩ := info_parts info9
              have hown7 := HS5.out.vals
              simp only [List.length_map] at hown7
              go_wp2_with (at_builtin; refine wpList_append_own _ rfl (.tmp 52) (.tmp 55) 27 rfl (w.heap.size + 1) 9 i9 (.string ⟨#[]⟩) 1 16 Yba.underlying27 p1 p2 p3 p4 rfl (by decide) _ _ _ rfl (hown7.alloc _) ⟨w5.heap.size, 0, none⟩ 1 1 [.string ms] rfl rfl ?_ ?_ ?_ ?_ ?_ ?_)
              any_goals (first | exact one_new _ _ _ | exact one_one rfl | rfl | (unfold maxLen; omega) | omega | (simp; omega))
              intro v7 w6 ho6 hg6 _
              have HS6 : Hid (StA w w6 S (T.map Msg.bal ++ [mb]) (T.map Msg.val ++ [ms]) vK _ v7) := (HS5.out.later ((Below.refl _ _).alloc (Nat.le_refl _) _)).appX (by simpa using ho6) (by simpa using hg6)
              have B6 : Hid (w6.heap[w1.heap.size]? = some (.cells #[.int .i64 3, .int .i64 ma, .int .i64 mb, .int .i64 mv, .string ms] 33 (0, 0))) :=
                grown_block (hown7.alloc _) hg6 (by rw [Below.heap_alloc _ _ _ (lt_of_block B5.out)]; exact B5.out) (by decide)
              have y0 : w6.cell? ⟨w1.heap.size, 0, none⟩ = some (.int .i64 3) := by simp [World.cell?, B6.out]
              have y1 : w6.cell? ⟨w1.heap.size, 1, none⟩ = some (.int .i64 ma) := by simp [World.cell?, B6.out]
              have y2 : w6.cell? ⟨w1.heap.size, 2, none⟩ = some (.int .i64 mb) := by simp [World.cell?, B6.out]
              have y3 : w6.cell? ⟨w1.heap.size, 3, none⟩ = some (.int .i64 mv) := by simp [World.cell?, B6.out]
              have y4' : w6.cell? ⟨w1.heap.size, 4, none⟩ = some (.string ms) := by simp [World.cell?, B6.out]
              obtain ⟨b7, d7, rfl⟩ := own_slice ho6
              have CA : Hid (Calls Yba.prog 8 #[.pointer (some ⟨w.heap.size, 0, none⟩), .agg #[.int .i64 3, .int .i64 ma, .int .i64 mb, .int .i64 mv, .string ms]] w6 (AddPost (w.heap.size + 1) vK (addL ⟨3, ma, mb, mv, ms⟩ S) w.heap.size 0 w6)) :=
                HS6.out.addCall (by omega) HSRT.out ⟨3, ma, mb, mv, ms⟩
              clear ho6 hg6 p1 p2 p3 p4 hown7 HS5 B5 B6 hbase5 i9 y4
              go_wp2_with fail
              refine Calls.mono CA.out ?_
              intro e w7 hp
              obtain ⟨rfl, _, vK7, hs7⟩ := HS6.out.add hp
              have HS7 : Hid (StA w w7 (addL ⟨3, ma, mb, mv, ms⟩ S) ((T ++ [(⟨3, ma, mb, mv, ms⟩ : Msg)]).map Msg.bal) ((T ++ [(⟨3, ma, mb, mv, ms⟩ : Msg)]).map Msg.val) vK7 (.slice b6 (T.length + 1) d6) (.slice b7 (T.length + 1) d7)) := by
                show StA _ _ _ _ _ _ _ _
                simp only [List.map_append, List.map_cons, List.map_nil]
                exact hs7
              clear hp hs7 CA HS6 y0 y1 y2 y3 y4'
              go_wp2
              go_roundw
              case rel => exact ⟨k + 1, _, T ++ [(⟨3, ma, mb, mv, ms⟩ : Msg)], vK7, by omega, by go_num, HS7, HI2, hSl', by simp; omega, fun h => absurd h HNN.out⟩
              case measure => simp [intOf]; omega
            · go_wp2
              go_roundw
              case rel => exact ⟨k + 1, S, T, vK, by omega, by go_num, by simpa using HS2, HI, by omega, by omega, HNL⟩
              case measure => simp [intOf]; omega
      · have t1 : (mk == 3) = false := by rw [beq_eq_false_iff_ne]; exact h3
        have HI2 : Hid (InvE (addL ⟨mk, ma, mb, mv, ms⟩ S) T) := HI.out.skip (m := ⟨mk, ma, mb, mv, ms⟩) h3
        have HS2 : Hid (StA w (w1.alloc (.cells #[.int .i64 mk, .int .i64 ma, .int .i64 mb, .int .i64 mv, .string ms] 33)) S (T.map Msg.bal) (T.map Msg.val) vK (.slice aB (T.map Msg.bal).length cB) (.slice aX (T.map Msg.val).length cX)) := HS1.out.later ((Below.refl _ _).alloc (Nat.le_refl _) _)
        have CA : Hid (Calls Yba.prog 8 #[.pointer (some ⟨w.heap.size, 0, none⟩), .agg #[.int .i64 mk, .int .i64 ma, .int .i64 mb, .int .i64 mv, .string ms]] _ (AddPost (w.heap.size + 1) vK (addL ⟨mk, ma, mb, mv, ms⟩ S) w.heap.size 0 _)) :=
          HS2.out.addCall (by omega) HI.out.sorted ⟨mk, ma, mb, mv, ms⟩
        clear h3 HI HS1 KB
        go_wp2_with fail
        refine Calls.mono CA.out ?_
        intro e w6 hp
        obtain ⟨rfl, _, vK6, hs6⟩ := HS2.out.add hp
        simp only [List.length_map] at hs6
        have HS6 : Hid (StA w w6 (addL ⟨mk, ma, mb, mv, ms⟩ S) (T.map Msg.bal) (T.map Msg.val) vK6 (.slice aB T.length cB) (.slice aX T.length cX)) := hs6
        clear hp hs6 CA HS2
        go_wp2
        go_roundw
        case rel => exact ⟨k + 1, _, T, vK6, by omega, by go_num, HS6, HI2, hSl', by omega, fun h => absurd h HNN.out⟩
        case measure => simp [intOf]; omega
    · obtain rfl : k = len := by omega
      obtain ⟨aK, cK, gK, rfl, _, _, hcK, _, _, _⟩ := own_msgs HS.out.known
      obtain ⟨aB, cB, gB, rfl, nB, mB, hB, kB⟩ := own_cells HS.out.bals
      obtain ⟨aX, cX, gX, rfl, nX, mX, hX, kX⟩ := own_cells HS.out.vals
      simp only [List.length_map] at nB nX hB hX ⊢
      have x0 : wr.cell? ⟨w.heap.size, 0, none⟩ = some (.slice aK S.length cK) := by simp [World.cell?, HS.out.box]
      have CL : Hid (Calls Yba.prog 9 #[.slice aK S.length cK] wr (ClPost S wr)) := clone_calls _ _ S wr (by omega) HS.out.known HNL.out
      have CP : Hid (∀ W, Below wr.heap.size wr W → Calls Yba.prog 10 #[.slice aK S.length cK, .int .i64 q] W (PropPost S q W)) := fun W hW => proposal_calls _ _ S q W (by omega) HI.out.sorted (own_below HS.out.known hW)
      have CE : Hid (∀ (W : World) (v' : Value) (b' : Nat), Below wr.heap.size wr W → W.ownsRow b' 33 5 v' S.length (cellsOf S) → Calls Yba.prog 11 #[v', .slice aK S.length cK] W fun e w' => e = .returned (.bool true) ∧ Below W.heap.size W w') := fun W v' b' hW ho => equal_calls _ _ _ _ S W (by omega) ho (own_below HS.out.known hW)
      have KC : Hid (∀ j x, T[j]? = some x → wr.cell? ⟨gB, j, none⟩ = some (.int .i64 x.bal) ∧ wr.cell? ⟨gX, j, none⟩ = some (.string x.val)) := fun j x hj => ⟨kB j x.bal (by rw [List.getElem?_map, hj]; rfl), kX j x.val (by rw [List.getElem?_map, hj]; rfl)⟩
      have HBA : Hid (0 < T.length → aB = some ⟨gB, 0, none⟩ ∧ aX = some ⟨gX, 0, none⟩) := fun h => ⟨hB h, hX h⟩
      have HB : Hid (Below w.heap.size w wr) := HS.out.below
      have hge : ¬ ((k : Int) < (k : Int)) := by omega
      have hTi : (T.length : Int) ≤ 1024 := by omega
      clear HS hB hX kB kX hlt hk CM HEL HOK HCE HNL
      go_wp2_with fail
      refine Calls.mono CL.out ?_
      rintro e w2 ⟨v2, b2, rfl, ho2, hb2⟩
      have HO2 : Hid (w2.ownsRow b2 33 5 v2 S.length (cellsOf S)) := ho2
      have HB2 : Hid (Below wr.heap.size wr w2) := hb2
      have x2 := cell_later hb2 x0
      obtain ⟨a2, c2, rfl⟩ := own_slice ho2
      clear ho2 hb2 CL x0
      go_wp2_with fail
      refine Calls.mono (CP.out _ HB2.out) ?_
      intro e w3 hp3
      obtain ⟨hb3, hres⟩ := hp3
      have HSC : Hid (∃ (d : Bool) (s : ByteArray), e = .returned (.tuple #[.string s, .bool d]) ∧ scanF T q = (d, s)) := by
        rcases hres with ⟨m, hm, he⟩ | ⟨hm, he⟩
        · exact ⟨true, m.val, he, HI.out.some hm⟩
        · exact ⟨false, ⟨#[]⟩, he, HI.out.none hm⟩
      obtain ⟨d, s, rfl, hsc⟩ := HSC.out
      have HSN : Hid (scanF T q = (d, s)) := hsc
      have HB3 : Hid (Below wr.heap.size wr w3) := HB2.out.trans (hb3.mono HB2.out.size)
      have x3 := cell_later hb3 x2
      have HO3 : Hid (w3.ownsRow b2 33 5 (.slice a2 S.length c2) S.length (cellsOf S)) := own_below HO2.out hb3
      have KC3 : Hid (∀ j x, T[j]? = some x → w3.cell? ⟨gB, j, none⟩ = some (.int .i64 x.bal) ∧ w3.cell? ⟨gX, j, none⟩ = some (.string x.val)) := fun j x hj => ⟨cell_later HB3.out (KC.out j x hj).1, cell_later HB3.out (KC.out j x hj).2⟩
      clear HSC hsc hres hb3 x2 HO2 KC CP HI HB2
      go_wp2_with fail
      go_loopw [17, 18, 71] (fun s17 s18 i wi => ∃ (j : Nat), j ≤ T.length ∧ s17 = .bool (scanF (T.take j) q).1 ∧ s18 = .string (scanF (T.take j) q).2 ∧ i = .int .i64 j ∧ wi = w3) (fun _ _ i _ => T.length - (intOf i).toNat)
      case atStart => exact ⟨0, Nat.zero_le _, rfl, rfl, rfl, rfl⟩
      case round =>
        obtain ⟨j, hj, rfl, rfl, rfl, hwi⟩ := hrel
        have hwi' := hwi.symm
        clear hwi
        subst hwi'
        by_cases hjl : j < T.length
        · obtain ⟨x, hx⟩ : ∃ x, T[j]? = some x := ⟨_, List.getElem?_eq_getElem hjl⟩
          obtain ⟨z1, z2⟩ := KC3.out j x hx
          obtain ⟨rfl, rfl⟩ := HBA.out (by omega)
          have hji : (j : Int) < (T.length : Int) := by omega
          have HD : Hid (scanF (T.take (j + 1)) q = if x.bal = q then (true, x.val) else scanF (T.take j) q) := scan_step hx
          generalize hxb : x.bal = xb at z1 HD
          generalize hxv : x.val = xv at z2 HD
          clear hxb hxv hx
          generalize scanF (T.take j) q = sj at HD ⊢
          by_cases e1 : xb = q
          · have e1' : (xb == q) = true := by rw [beq_iff_eq]; exact e1
            have HD2 : Hid (scanF (T.take (j + 1)) q = (true, xv)) := by show scanF _ _ = _; rw [HD.out, if_pos e1]
            clear e1
            go_wp2
            go_roundw
            case rel => exact ⟨j + 1, by omega, by rw [HD2.out], by rw [HD2.out], by go_num, by trivial⟩
            case measure => simp [intOf]; omega
          · have e1' : (xb == q) = false := by rw [beq_eq_false_iff_ne]; exact e1
            have HD2 : Hid (scanF (T.take (j + 1)) q = sj) := by show scanF _ _ = _; rw [HD.out, if_neg e1]
            clear e1
            go_wp2
            go_roundw
            case rel => exact ⟨j + 1, by omega, by rw [HD2.out], by rw [HD2.out], by go_num, by trivial⟩
            case measure => simp [intOf]; omega
        · obtain rfl : j = T.length := by omega
          rw [List.take_length, HSN.out]
          have hjn : ¬ ((T.length : Int) < (T.length : Int)) := by omega
          have ts : (s.toList == s.toList) = true := beq_self_eq_true _
          have td : (d == d) = true := beq_self_eq_true _
          clear hj hjl KC3 HBA
          go_wp2_with fail
          refine Calls.mono (CE.out _ _ _ HB3.out HO3.out) ?_
          rintro e w4 ⟨rfl, hb4⟩
          have HF : Hid (Below w.heap.size w w4) := HB.out.trans ((HB3.out.trans (hb4.mono HB3.out.size)).mono HB.out.size)
          clear hb4 CE HB3 HO3 HB
          go_wp2
          go_ret
          exact ⟨rfl, HF.out⟩
end Go.Proofs.Ybulkbivk
