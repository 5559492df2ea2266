/-
  THE WALK OF LawS2987BCount (function 5).
-/
import Derived.Test.YbulkbivkSt
import Derived.Deep.QuietTactic
import Derived.BigQuiet
import Derived.WalkLawsBesides
namespace Go.Proofs.Ybulkbivk
open Go.RowKit
attribute [local go_sem ↓] Go.wp_at_zero Go.wp_at_succ
set_option linter.unusedVariables false

def blessB (a1 b1 : Int) (v1 : ByteArray) (a2 b2 : Int) (v2 : ByteArray) : Bool := decide (a1 < a2 ∨ a1 = a2 ∧ (b1 < b2 ∨ b1 = b2 ∧ cmpStr v1 v2 < 0))

theorem bless_calls (a1 b1 : Int) (v1 : ByteArray) (a2 b2 : Int) (v2 : ByteArray) (w : World) :
    Calls Yba.prog 14 #[.int .i64 a1, .int .i64 b1, .string v1, .int .i64 a2, .int .i64 b2, .string v2] w fun e w' => e = .returned (.bool (blessB a1 b1 v1 a2 b2 v2)) ∧ w' = w := by
  by_cases ha : a1 = a2
  · subst ha
    by_cases hb : b1 = b2
    · subst hb
      have HE : Hid (Op.bytesLess v1.toList v2.toList = blessB a1 b1 v1 a1 b1 v2) := by
        show Op.bytesLess v1.toList v2.toList = blessB a1 b1 v1 a1 b1 v2
        unfold blessB
        rw [bytesLess_cb]
        simp [cmpStr, Lib.toList_data]
      go_enter Yba.func14, Yba.ntmps14
      go_wp2
      go_ret
      exact ⟨by rw [← HE.out]; rfl, rfl⟩
    · have hne : (b1 != b2) = true := by rw [bne_iff_ne]; exact hb
      have HE : Hid (decide (b1 < b2) = blessB a1 b1 v1 a1 b2 v2) := by
        show decide (b1 < b2) = blessB a1 b1 v1 a1 b2 v2
        unfold blessB; simp [hb]
      go_enter Yba.func14, Yba.ntmps14
      go_wp2
      go_ret
      exact ⟨by rw [← HE.out]; rfl, rfl⟩
  · have hne : (a1 != a2) = true := by rw [bne_iff_ne]; exact ha
    have HE : Hid (decide (a1 < a2) = blessB a1 b1 v1 a2 b2 v2) := by
      show decide (a1 < a2) = blessB a1 b1 v1 a2 b2 v2
      unfold blessB; simp [ha]
    go_enter Yba.func14, Yba.ntmps14
    go_wp2
    go_ret
    exact ⟨by rw [← HE.out]; rfl, rfl⟩

theorem bless_lt {x : Msg} {ma mb mv : Int} {es : ByteArray} (h : isV mb x) : (blessB x.acc x.vb x.val ma mv es = true ↔ LtMsg x ⟨4, ma, mb, mv, es⟩) := by
  unfold blessB LtMsg
  simp only [h.1, h.2, Int.lt_irrefl, true_and, false_or, decide_eq_true_eq]

theorem info31 : (Yba.prog.info? 31).map (fun i => (i.zero, i.size, i.bytes)) = some (some (.int .i64 0), 1, 8) := by kernel_rfl
theorem info3 : (Yba.prog.info? 3).map (fun i => (i.zero, i.size, i.bytes)) = some (some (.int .i64 0), 1, 8) := by kernel_rfl
theorem info9 : (Yba.prog.info? 9).map (fun i => (i.zero, i.size, i.bytes)) = some (some (.string ⟨#[]⟩), 1, 16) := by kernel_rfl

theorem two_new (w : World) (o1 o2 : Obj) : ((w.alloc o1).alloc o2).heap[w.heap.size + 1]? = some o2 := by
  have := heap_alloc_new (w.alloc o1) o2
  simpa using this

theorem next_ne {T : List Msg} {j : Nat} {x m : Msg} (h : ∀ (t : Nat) (x : Msg), t < j → T[t]? = some x → x ≠ m) (hx : T[j]? = some x) (hne : x ≠ m) : ∀ (t : Nat) (x : Msg), t < j + 1 → T[t]? = some x → x ≠ m := by
  intro t y ht hy
  by_cases he : t = j
  · subst he; rw [hx] at hy; cases hy; exact hne
  · exact h t y (by omega) hy

theorem msg_block {w wr W2 w3 : World} {lb q : Int} {S : List Msg} {A V : List Int} {X : List ByteArray} {vK s9 s10 s11 : Value} {o : Obj} (h : StB w wr lb q S A V X vK s9 s10 s11) (hsz : W2.heap.size = wr.heap.size + 2)
    (hk : ∀ k, k < W2.drew.heap.size → k ≠ w.heap.size → some k ≠ vK.ownBlock → w3.heap[k]? = W2.drew.heap[k]?) (hb : W2.heap[wr.heap.size + 1]? = some o) : w3.heap[wr.heap.size + 1]? = some o := by
  rw [hk (wr.heap.size + 1) (by show _ < W2.heap.size; omega) (by have := lt_of_block h.lead; omega) (fun he => by have := h.known.lt _ he.symm; omega)]
  exact hb

theorem grown_block {w W : World} {base e z n k t : Nat} {v : Value} {xs : List Value} {c : Array Value} {f : Nat × Nat} (ho : w.ownsRow base e z v n xs) (hg : w.grownBy W v.ownBlock) (hb : w.heap[k]? = some (.cells c t f)) (hne : t ≠ e) : W.heap[k]? = some (.cells c t f) := by
  rw [hg.block k (lt_of_block hb) (fun he => ?_)]
  · exact hb
  · rcases ho.2 with ⟨rfl, _⟩ | ⟨g, cap, cur, rfl, _, hgg, _⟩
    · simp [Value.ownBlock] at he
    · simp only [Value.ownBlock, Option.some.injEq] at he
      subst he
      rw [hb] at hgg
      simp at hgg
      exact hne hgg.2.1

theorem one_new (W : World) (v : Value) (t : TypeId) : ∀ j u, [v][j]? = some u → (W.alloc (.cells #[v] t)).cell? ((⟨W.heap.size, 0, none⟩ : Addr).add j) = some u := by
  intro j u hj
  match j, hj with
  | 0, hj => simp at hj; subst hj; rw [Addr.add_lit, Nat.zero_add, World.cell?_alloc_new]; rfl
theorem one_one {v : Value} (h : v.oneCell' = true) : ∀ u ∈ [v], u.oneCell' = true := by
  intro u hu; simp at hu; subst hu; exact h

theorem own_at {w : World} {base e m n c : Nat} {a : Option Addr} {α : Type} {f : α → Value} {A : List α} (h : w.ownsRow base e 1 (.slice a m c) n (A.map f)) (hn : 0 < n) :
    ∃ g, a = some ⟨g, 0, none⟩ ∧ ∀ j x, A[j]? = some x → w.cell? ⟨g, j, none⟩ = some (f x) := by
  obtain ⟨a', cap, g, hv, _, _, ha, hc⟩ := own_cells h
  simp only [Value.slice.injEq] at hv
  obtain ⟨rfl, _, _⟩ := hv
  exact ⟨g, ha hn, hc⟩

theorem msg_kept {w wr W2 w3 : World} {lb q : Int} {S : List Msg} {A V : List Int} {X : List ByteArray} {vK s9 s10 s11 : Value} {mk ma mb mv : Int} {es : ByteArray} (h : StB w wr lb q S A V X vK s9 s10 s11) (h2 : StB w W2.drew lb q S A V X vK s9 s10 s11) (hsz : W2.heap.size = wr.heap.size + 2)
    (hk : ∀ k, k < W2.drew.heap.size → k ≠ w.heap.size → some k ≠ vK.ownBlock → w3.heap[k]? = W2.drew.heap[k]?)
    (hc : W2.cell? ⟨wr.heap.size + 1, 0, none⟩ = some (.int .i64 mk) ∧ W2.cell? ⟨wr.heap.size + 1, 1, none⟩ = some (.int .i64 ma) ∧ W2.cell? ⟨wr.heap.size + 1, 2, none⟩ = some (.int .i64 mb) ∧ W2.cell? ⟨wr.heap.size + 1, 3, none⟩ = some (.int .i64 mv) ∧ W2.cell? ⟨wr.heap.size + 1, 4, none⟩ = some (.string es)) :
    w3.cell? ⟨wr.heap.size + 1, 0, none⟩ = some (.int .i64 mk) ∧ w3.cell? ⟨wr.heap.size + 1, 1, none⟩ = some (.int .i64 ma) ∧ w3.cell? ⟨wr.heap.size + 1, 2, none⟩ = some (.int .i64 mb) ∧ w3.cell? ⟨wr.heap.size + 1, 3, none⟩ = some (.int .i64 mv) ∧ w3.cell? ⟨wr.heap.size + 1, 4, none⟩ = some (.string es) := by
  have key : ∀ o, w3.cell? ⟨wr.heap.size + 1, o, none⟩ = W2.cell? ⟨wr.heap.size + 1, o, none⟩ := fun o => h.cellsKept (W2 := W2.drew) hk (by omega) (by show _ < W2.heap.size; omega)
  rw [key, key, key, key, key]
  exact hc

set_option maxHeartbeats 8000000 in
set_option maxRecDepth 100000 in
theorem count_walk (ad : Option Addr) (len cap : Nat) (E : List InB) (bb q : Int) (w : World) (hE : RowB w ad len E) (hb0 : 0 ≤ bb) (hb1 : bb ≤ 255) (hlen : len ≤ 512) :
    Calls Yba.prog 5 #[.slice ad len cap, .int .u8 bb, .int .i64 q] w fun e w' => e = .returned (.bool true) ∧ Below w.heap.size w w' := by
  obtain ⟨hEl, hok, hcells⟩ := hE
  have HEL : Hid (E.length = len) := hEl
  have HOK : Hid (∀ e ∈ E, e.ok) := hok
  have HCE : Hid _ := hcells
  clear hEl hok hcells
  have hl : (len : Int) ≤ 512 := by omega
  have hd : decide ((512 : Int) < (len : Int)) = false := decide_eq_false (by omega)
  obtain ⟨lb, hlb⟩ : ∃ lb, lb = bb % 4 := ⟨_, rfl⟩
  have HLB : Hid (bb % 4 = lb) := hlb.symm
  clear hlb
  have CA : Hid (∀ W : World, W = w.alloc (.cells #[.int .i64 lb, .int .i64 q, .int .i64 0, .slice none 0 0] 50) →
      Calls Yba.prog 8 #[.pointer (some ⟨w.heap.size, 3, none⟩), .agg #[.int .i64 0, .int .i64 0, .int .i64 lb, .int .i64 0, .string ⟨#[]⟩]] W (AddPost (w.heap.size + 1) (.slice none 0 0) [m1a lb] w.heap.size 3 W)) := by
    rintro W rfl
    exact add_calls (w.heap.size + 1) w.heap.size 3 (.slice none 0 0) [] (m1a lb) _ (by simp) sorted_nil (World.ownsRow_nil _ _ _ _) (by simp) (by omega) (by rw [World.cell?_alloc_new]; rfl) (by rw [World.frozen?_alloc_new])
  go_enter Yba.func5, Yba.ntmps5
  go_wp2_with fail
  rw [HLB.out]
  refine (CA.out _ rfl).mono ?_
  intro e W1 hp
  obtain ⟨rfl, _, _, vK, hst⟩ := (StB.start w lb q).add hp
  have HST : Hid _ := hst
  clear hst hp
  go_wp2_with fail
  go_loopw [9, 10, 11, 12, 41] (fun s9 s10 s11 s12 s41 wr => ∃ (k : Nat) (S T : List Msg) (best : Int) (vK : Value), k ≤ len ∧ s41 = .int .i64 k ∧ s12 = .int .i64 best ∧
      Hid (StB w wr lb q S (T.map Msg.acc) (T.map Msg.vb) (T.map Msg.val) vK s9 s10 s11) ∧ Hid (InvB lb S T best) ∧ S.length ≤ k + 1 ∧ T.length ≤ k) (fun _ _ _ _ i _ => len - (intOf i).toNat)
  case atStart => exact ⟨0, [m1a lb], [], -1, vK, Nat.zero_le _, rfl, rfl, HST, InvB.start lb, Nat.le_refl _, Nat.le_refl _⟩
  case round =>
    obtain ⟨k, S, T, best, vK, hk, rfl, rfl, HS, HI, hSl, hTl⟩ := hrel
    by_cases hlt : k < len
    · obtain ⟨b0, off0, rfl, hb0w, hc⟩ := HCE.out (by omega)
      obtain ⟨e, he⟩ : ∃ e, E[k]? = some e := ⟨_, List.getElem?_eq_getElem (by rw [HEL.out]; omega)⟩
      obtain ⟨c0, c1, c2, c3, c4⟩ := hc k e he
      obtain ⟨⟨k1, k2⟩, ⟨a1, a2⟩, ⟨d1, d2⟩, ⟨v1, v2⟩⟩ := HOK.out e (List.mem_of_getElem? he)
      have hbr := HS.out.below
      have c0' := (hbr.cell (p := ⟨b0, off0 + k * 5, none⟩) hb0w).trans c0
      have c1' := (hbr.cell (p := ⟨b0, off0 + k * 5 + 1, none⟩) hb0w).trans c1
      have c2' := (hbr.cell (p := ⟨b0, off0 + k * 5 + 2, none⟩) hb0w).trans c2
      have c3' := (hbr.cell (p := ⟨b0, off0 + k * 5 + 3, none⟩) hb0w).trans c3
      have c4' := (hbr.cell (p := ⟨b0, off0 + k * 5 + 4, none⟩) hb0w).trans c4
      obtain ⟨ek, ea, eb, ev, es⟩ := e
      simp only at c0' c1' c2' c3' c4' k1 k2 a1 a2 d1 d2 v1 v2
      have hki : (k : Int) < (len : Int) := by omega
      clear c0 c1 c2 c3 c4 hc he hbr
      go_wp2_with fail
      generalize ek % 5 = mk
      generalize ea % 4 = ma
      generalize eb % 4 = mb
      generalize ev % 3 - 1 = mv
      obtain ⟨W2, hW2⟩ : ∃ W2, W2 = (wr.alloc (.cells #[.int .u8 ek, .int .u8 ea, .int .u8 eb, .int .u8 ev, .string es] 53)).alloc (.cells #[.int .i64 mk, .int .i64 ma, .int .i64 mb, .int .i64 mv, .string es] 33) := ⟨_, rfl⟩
      rw [← hW2]
      have hN : Below wr.heap.size wr W2 := by rw [hW2]; exact ((Below.refl _ _).alloc (Nat.le_refl _) _).alloc (by simp) _
      have hS2 : W2.heap.size = wr.heap.size + 2 := by rw [hW2]; simp
      have HB2 : Hid (W2.heap[wr.heap.size + 1]? = some (.cells #[.int .i64 mk, .int .i64 ma, .int .i64 mb, .int .i64 mv, .string es] 33 (0, 0))) := by rw [hW2]; exact two_new _ _ _
      have q0 : W2.cell? ⟨wr.heap.size + 1, 0, none⟩ = some (.int .i64 mk) := by simp [World.cell?, HB2.out]
      have q1 : W2.cell? ⟨wr.heap.size + 1, 1, none⟩ = some (.int .i64 ma) := by simp [World.cell?, HB2.out]
      have q2 : W2.cell? ⟨wr.heap.size + 1, 2, none⟩ = some (.int .i64 mb) := by simp [World.cell?, HB2.out]
      have q3 : W2.cell? ⟨wr.heap.size + 1, 3, none⟩ = some (.int .i64 mv) := by simp [World.cell?, HB2.out]
      have q4 : W2.cell? ⟨wr.heap.size + 1, 4, none⟩ = some (.string es) := by simp [World.cell?, HB2.out]
      have CA : Hid (Calls Yba.prog 8 #[.pointer (some ⟨w.heap.size, 3, none⟩), .agg #[.int .i64 mk, .int .i64 ma, .int .i64 mb, .int .i64 mv, .string es]] W2.drew (AddPost (w.heap.size + 1) vK (addL ⟨mk, ma, mb, mv, es⟩ S) w.heap.size 3 W2.drew)) :=
        (HS.out.later hN.drew).addCall (by omega) HI.out.sorted ⟨mk, ma, mb, mv, es⟩
      have H2 : Hid (StB w W2.drew lb q S (T.map Msg.acc) (T.map Msg.vb) (T.map Msg.val) vK _ _ _) := HS.out.later hN.drew
      clear hW2 c0' c1' c2' c3' c4'
      go_region_held3 (fun w' => w'.cell? ⟨wr.heap.size + 1, 0, none⟩ = some (.int .i64 mk) ∧ w'.cell? ⟨wr.heap.size + 1, 1, none⟩ = some (.int .i64 ma) ∧ w'.cell? ⟨wr.heap.size + 1, 2, none⟩ = some (.int .i64 mb) ∧ w'.cell? ⟨wr.heap.size + 1, 3, none⟩ = some (.int .i64 mv) ∧ w'.cell? ⟨wr.heap.size + 1, 4, none⟩ = some (.string es))
        (first | go_keep | exact KC.out)
        (first | (go_at_call 8; refine Calls.mono CA.out ?_; intro e w3 hp; obtain ⟨he, hsz3, hkeep3, vK3, hst3⟩ := H2.out.add hp; subst he; have KC : Hid (w3.cell? ⟨wr.heap.size + 1, 0, none⟩ = some (.int .i64 mk) ∧ w3.cell? ⟨wr.heap.size + 1, 1, none⟩ = some (.int .i64 ma) ∧ w3.cell? ⟨wr.heap.size + 1, 2, none⟩ = some (.int .i64 mb) ∧ w3.cell? ⟨wr.heap.size + 1, 3, none⟩ = some (.int .i64 mv) ∧ w3.cell? ⟨wr.heap.size + 1, 4, none⟩ = some (.string es)) := msg_kept HS.out H2.out hS2 hkeep3 ⟨q0, q1, q2, q3, q4⟩; have HB3 : Hid (w3.heap[wr.heap.size + 1]? = some (.cells #[.int .i64 mk, .int .i64 ma, .int .i64 mb, .int .i64 mv, .string es] 33 (0, 0))) := msg_block HS.out hS2 hkeep3 HB2.out))
      have HS3 : Hid (StB w w3 lb q (addL ⟨mk, ma, mb, mv, es⟩ S) (T.map Msg.acc) (T.map Msg.vb) (T.map Msg.val) vK3 _ _ _) := hst3
      obtain ⟨r0, r1, r2, r3, r4⟩ := KC.out
      have hal := (addL_length_le ⟨mk, ma, mb, mv, es⟩ S).2
      have hSl' : (addL ⟨mk, ma, mb, mv, es⟩ S).length ≤ k + 1 + 1 := by omega
      have hbig : wr.heap.size + 1 < w3.heap.size := by have : W2.heap.size ≤ w3.heap.size := hsz3; omega
      clear q0 q1 q2 q3 q4 hst3 KC HB2 hN CA H2 hp hkeep3 hsz3 hal hS2 HS
      by_cases hk4 : mk = 4
      · by_cases hml : mb = lb
        · subst hk4
          subst hml
          have t1 : ((4 : Int) != 4) = false := rfl
          have t2 : (mb != mb) = false := by simp
          obtain ⟨a9, c9, g9, rfl, n9, m9, h9, k9⟩ := own_cells HS3.out.accs
          obtain ⟨a10, c10, g10, rfl, n10, m10, h10, k10⟩ := own_cells HS3.out.vbs
          obtain ⟨a11, c11, g11, rfl, n11, m11, h11, k11⟩ := own_cells HS3.out.vals
          simp only [List.length_map] at n9 n10 n11 h9 h10 h11 HS3 ⊢
          have K9 : Hid (∀ j x, T[j]? = some x → w3.cell? ⟨g9, j, none⟩ = some (.int .i64 x.acc) ∧ w3.cell? ⟨g10, j, none⟩ = some (.int .i64 x.vb) ∧ w3.cell? ⟨g11, j, none⟩ = some (.string x.val)) := fun j x hj =>
            ⟨k9 j x.acc (by rw [List.getElem?_map, hj]; rfl), k10 j x.vb (by rw [List.getElem?_map, hj]; rfl), k11 j x.val (by rw [List.getElem?_map, hj]; rfl)⟩
          have H9 : Hid (0 < T.length → a9 = some ⟨g9, 0, none⟩ ∧ a10 = some ⟨g10, 0, none⟩ ∧ a11 = some ⟨g11, 0, none⟩) := fun h => ⟨h9 h, h10 h, h11 h⟩
          have hTi : (T.length : Int) ≤ 512 := by omega
          have R0 : Hid (w3.cell? ⟨wr.heap.size + 1, 0, none⟩ = some (.int .i64 4)) := r0
          clear h9 h10 h11 k9 k10 k11
          go_wp2_with fail
          go_loopw [16, 17] (fun d i wi => ∃ (j nq : Nat), j ≤ T.length ∧ d = .bool false ∧ i = .int .i64 j ∧ wi = w3.drewN nq ∧ Hid (∀ (t : Nat) (x : Msg), t < j → T[t]? = some x → x ≠ ⟨4, ma, mb, mv, es⟩)) (fun _ i _ => T.length - (intOf i).toNat)
          case atStart => exact ⟨0, 0, Nat.zero_le _, rfl, rfl, rfl, fun t x ht => absurd ht (Nat.not_lt_zero _)⟩
          case round =>
            obtain ⟨j, nq, hj, rfl, rfl, rfl, HJ⟩ := hrel
            by_cases hjl : j < T.length
            · obtain ⟨x, hx⟩ : ∃ x, T[j]? = some x := ⟨_, List.getElem?_eq_getElem hjl⟩
              obtain ⟨z1, z2, z3⟩ := K9.out j x hx
              obtain ⟨rfl, rfl, rfl⟩ := H9.out (by omega)
              have hxv := ((HI.out.mem x).1 (List.mem_of_getElem? hx)).2
              have HX : Hid (T[j]? = some x) := hx
              have hji : (j : Int) < (T.length : Int) := by omega
              obtain ⟨xk, xa, xb, xv, xs⟩ := x
              simp only at z1 z2 z3
              obtain ⟨hxk, hxb⟩ := hxv
              simp only at hxk hxb
              subst hxk
              subst hxb
              clear hx
              by_cases e1 : xa = ma
              · by_cases e2 : xv = mv
                · by_cases e3 : xs = es
                  · subst e1
                    subst e2
                    subst e3
                    have HR : Hid (InvB xb (addL ⟨4, xa, xb, xv, xs⟩ S) T best) := HI.out.dup (List.mem_of_getElem? HX.out)
                    clear HJ HI HX
                    go_wp2
                    go_quiet (fail)
                    go_wp2
                    go_roundw
                    case rel => exact ⟨k + 1, _, T, best, vK3, by omega, by go_num, rfl, HS3.out.later (below_drewN (Below.refl _ _) _), HR, hSl', by omega⟩
                    case measure => simp [intOf]; omega
                  · subst e1
                    subst e2
                    have f3 : (xs.toList == es.toList) = false := by
                      rw [beq_eq_false_iff_ne]; intro h; rw [Lib.toList_data, Lib.toList_data] at h; exact e3 (bytes_ext h)
                    have HJ2 : Hid (∀ (t : Nat) (x : Msg), t < j + 1 → T[t]? = some x → x ≠ ⟨4, xa, xb, xv, es⟩) := next_ne HJ.out HX.out (fun h => e3 (congrArg Msg.val h))
                    clear e3
                    go_wp2
                    go_quiet (fail)
                    go_wp2
                    go_roundw
                    case rel => exact ⟨j + 1, _, by omega, rfl, by go_num, rfl, HJ2⟩
                    case measure => simp [intOf]; omega
                · subst e1
                  have f2 : (xv == mv) = false := by rw [beq_eq_false_iff_ne]; exact e2
                  have HJ2 : Hid (∀ (t : Nat) (x : Msg), t < j + 1 → T[t]? = some x → x ≠ ⟨4, xa, xb, mv, es⟩) := next_ne HJ.out HX.out (fun h => e2 (congrArg Msg.vb h))
                  clear e2
                  go_wp2
                  go_quiet (fail)
                  go_wp2
                  go_roundw
                  case rel => exact ⟨j + 1, _, by omega, rfl, by go_num, rfl, HJ2⟩
                  case measure => simp [intOf]; omega
              · have f1 : (xa == ma) = false := by rw [beq_eq_false_iff_ne]; exact e1
                have HJ2 : Hid (∀ (t : Nat) (x : Msg), t < j + 1 → T[t]? = some x → x ≠ ⟨4, ma, xb, mv, es⟩) := next_ne HJ.out HX.out (fun h => e1 (congrArg Msg.acc h))
                clear e1
                go_wp2
                go_quiet (fail)
                go_wp2
                go_roundw
                case rel => exact ⟨j + 1, _, by omega, rfl, by go_num, rfl, HJ2⟩
                case measure => simp [intOf]; omega
            · obtain rfl : j = T.length := by omega
              have hnew : (⟨4, ma, mb, mv, es⟩ : Msg) ∉ T := fun h => by
                obtain ⟨t, ht⟩ := List.mem_iff_getElem?.1 h
                exact HJ.out t _ (List.getElem?_eq_some_iff.1 ht).1 ht rfl
              have HNEW : Hid ((⟨4, ma, mb, mv, es⟩ : Msg) ∉ T) := hnew
              have hjn : ¬ ((T.length : Int) < (T.length : Int)) := by omega
              obtain ⟨W4, hW4⟩ : ∃ W4, W4 = w3.drewN nq := ⟨_, rfl⟩
              have H4 : Below w3.heap.size w3 W4 := by rw [hW4]; exact below_drewN (Below.refl _ _) _
              have s1 := cell_later H4 r1
              have s3 := cell_later H4 r3
              have s4 := cell_later H4 r4
              have hbig4 : wr.heap.size + 1 < W4.heap.size := by have := H4.size; omega
              have HS4 := HS3.out.later H4
              have B4 : Hid (W4.heap[wr.heap.size + 1]? = some (.cells #[.int .i64 4, .int .i64 ma, .int .i64 mb, .int .i64 mv, .string es] 33 (0, 0))) := by
                show W4.heap[wr.heap.size + 1]? = _
                rw [H4.block _ (by omega)]; exact HB3.out
              have HS4' : Hid (StB w W4 mb q (addL ⟨4, ma, mb, mv, es⟩ S) (T.map Msg.acc) (T.map Msg.vb) (T.map Msg.val) vK3 _ _ _) := HS4
              have hbase4 : w.heap.size + 1 ≤ W4.heap.size := lt_of_block HS4.lead
              obtain ⟨i31, p1, p2, p3, p4⟩ := info_parts info31
              have hown9 := HS4.accs
              simp only [List.length_map] at hown9
              rw [← hW4]
              clear hW4 HJ hnew hjl hj H4 r0 r1 r2 r3 r4 K9 H9 HS4 HS3 R0
              go_wp2_with (at_builtin; refine wpList_append_own _ rfl (.tmp 111) (.tmp 114) 51 rfl (w.heap.size + 1) 31 i31 (.int .i64 0) 1 8 Yba.underlying51 p1 p2 p3 p4 rfl (by decide) _ _ _ rfl (hown9.alloc _) ⟨W4.heap.size, 0, none⟩ 1 1 [.int .i64 ma] rfl rfl ?_ ?_ ?_ ?_ ?_ ?_)
              any_goals (first | exact one_new _ _ _ | exact one_one rfl | rfl | (unfold maxLen; omega) | omega | (simp; omega))
              intro v9 w5 ho5 hg5 _
              have HS5 : Hid (StB w w5 mb q (addL ⟨4, ma, mb, mv, es⟩ S) (T.map Msg.acc ++ [ma]) (T.map Msg.vb) (T.map Msg.val) vK3 v9 _ _) :=
                (HS4'.out.later ((Below.refl _ _).alloc (Nat.le_refl _) _)).app9 (by simpa using ho5) hg5
              have B5 : Hid (w5.heap[wr.heap.size + 1]? = some (.cells #[.int .i64 4, .int .i64 ma, .int .i64 mb, .int .i64 mv, .string es] 33 (0, 0))) :=
                grown_block (hown9.alloc _) hg5 (by rw [Below.heap_alloc _ _ _ (by omega)]; exact B4.out) (by decide)
              have hbig5 : wr.heap.size + 1 < w5.heap.size := lt_of_block B5.out
              have hbase5 : w.heap.size + 1 ≤ w5.heap.size := lt_of_block HS5.out.lead
              have y3 : w5.cell? ⟨wr.heap.size + 1, 3, none⟩ = some (.int .i64 mv) := by simp [World.cell?, B5.out]
              obtain ⟨b9, d9, rfl⟩ := own_slice ho5
              clear ho5 hg5 p1 p2 p3 p4 s1 s3 s4 hown9 HS4' B4 hbig4 hbase4 i31
              obtain ⟨i3, p1, p2, p3, p4⟩ := info_parts info3
              have hown10 := HS5.out.vbs
              simp only [List.length_map] at hown10
              go_wp2_with (at_builtin; refine wpList_append_own _ rfl (.tmp 116) (.tmp 119) 26 rfl (w.heap.size + 1) 3 i3 (.int .i64 0) 1 8 Yba.underlying26 p1 p2 p3 p4 rfl (by decide) _ _ _ rfl (hown10.alloc _) ⟨w5.heap.size, 0, none⟩ 1 1 [.int .i64 mv] rfl rfl ?_ ?_ ?_ ?_ ?_ ?_)
              any_goals (first | exact one_new _ _ _ | exact one_one rfl | rfl | (unfold maxLen; omega) | omega | (simp; omega))
              intro v10 w6 ho6 hg6 _
              have HS6 : Hid (StB w w6 mb q (addL ⟨4, ma, mb, mv, es⟩ S) (T.map Msg.acc ++ [ma]) (T.map Msg.vb ++ [mv]) (T.map Msg.val) vK3 _ v10 _) :=
                (HS5.out.later ((Below.refl _ _).alloc (Nat.le_refl _) _)).app10 (by simpa using ho6) hg6
              have B6 : Hid (w6.heap[wr.heap.size + 1]? = some (.cells #[.int .i64 4, .int .i64 ma, .int .i64 mb, .int .i64 mv, .string es] 33 (0, 0))) :=
                grown_block (hown10.alloc _) hg6 (by rw [Below.heap_alloc _ _ _ (by omega)]; exact B5.out) (by decide)
              have hbig6 : wr.heap.size + 1 < w6.heap.size := lt_of_block B6.out
              have hbase6 : w.heap.size + 1 ≤ w6.heap.size := lt_of_block HS6.out.lead
              have y4 : w6.cell? ⟨wr.heap.size + 1, 4, none⟩ = some (.string es) := by simp [World.cell?, B6.out]
              obtain ⟨b10, d10, rfl⟩ := own_slice ho6
              clear ho6 hg6 p1 p2 p3 p4 hown10 HS5 B5 hbig5 hbase5 i3 y3
              obtain ⟨i9, p1, p2, p3, p4⟩ := info_parts info9
              have hown11 := HS6.out.vals
              simp only [List.length_map] at hown11
              go_wp2_with (at_builtin; refine wpList_append_own _ rfl (.tmp 121) (.tmp 124) 27 rfl (w.heap.size + 1) 9 i9 (.string ⟨#[]⟩) 1 16 Yba.underlying27 p1 p2 p3 p4 rfl (by decide) _ _ _ rfl (hown11.alloc _) ⟨w6.heap.size, 0, none⟩ 1 1 [.string es] rfl rfl ?_ ?_ ?_ ?_ ?_ ?_)
              any_goals (first | exact one_new _ _ _ | exact one_one rfl | rfl | (unfold maxLen; omega) | omega | (simp; omega))
              intro v11 w7 ho7 hg7 _
              have HS7 : Hid (StB w w7 mb q (addL ⟨4, ma, mb, mv, es⟩ S) (T.map Msg.acc ++ [ma]) (T.map Msg.vb ++ [mv]) (T.map Msg.val ++ [es]) vK3 _ _ v11) :=
                (HS6.out.later ((Below.refl _ _).alloc (Nat.le_refl _) _)).app11 (by simpa using ho7) hg7
              obtain ⟨b11, d11, rfl⟩ := own_slice ho7
              clear ho7 hg7 p1 p2 p3 p4 hown11 HS6 B6 hbig6 hbase6 i9 y4
              have hisV : isV mb ⟨4, ma, mb, mv, es⟩ := ⟨rfl, rfl⟩
              have HSE : Hid (StB w w7 mb q (addL ⟨4, ma, mb, mv, es⟩ S) ((T ++ [(⟨4, ma, mb, mv, es⟩ : Msg)]).map Msg.acc) ((T ++ [(⟨4, ma, mb, mv, es⟩ : Msg)]).map Msg.vb) ((T ++ [(⟨4, ma, mb, mv, es⟩ : Msg)]).map Msg.val) vK3 (.slice b9 (T.length + 1) d9) (.slice b10 (T.length + 1) d10) (.slice b11 (T.length + 1) d11)) := by
                show StB _ _ _ _ _ _ _ _ _ _ _ _
                simp only [List.map_append, List.map_cons, List.map_nil]
                exact HS7.out
              have hlen7 : (T ++ [(⟨4, ma, mb, mv, es⟩ : Msg)]).length ≤ k + 1 := by simp; omega
              by_cases hT : T = []
              · have hbest := HI.out.bnone hT
                subst hbest
                have HR : Hid (InvB mb (addL ⟨4, ma, mb, mv, es⟩ S) (T ++ [⟨4, ma, mb, mv, es⟩]) T.length) := HI.out.newTop hisV HNEW.out (fun x hx => by rw [hT] at hx; cases hx)
                clear hT HI HNEW HS7 hisV
                go_wp2_with fail
                go_quiet (fail)
                go_wp2
                go_roundw
                case rel => exact ⟨k + 1, addL ⟨4, ma, mb, mv, es⟩ S, T ++ [(⟨4, ma, mb, mv, es⟩ : Msg)], T.length, vK3, by omega, by go_num, rfl, HSE.out.later (below_drewN (Below.refl _ _) _), HR, hSl', hlen7⟩
                case measure => simp [intOf]; omega
              · obtain ⟨b, xb, hbest, hmb, hmax⟩ := HI.out.bsome hT
                subst hbest
                have hbl := (List.getElem?_eq_some_iff.1 hmb).1
                have hxv := ((HI.out.mem xb).1 (List.mem_of_getElem? hmb)).2
                obtain ⟨g9', rfl, G9⟩ := own_at HS7.out.accs (by simp)
                obtain ⟨g10', rfl, G10⟩ := own_at HS7.out.vbs (by simp)
                obtain ⟨g11', rfl, G11⟩ := own_at HS7.out.vals (by simp)
                have x1 : w7.cell? ⟨g9', b, none⟩ = some (.int .i64 xb.acc) := G9 b _ (by rw [List.getElem?_append_left (by simpa using hbl), List.getElem?_map, hmb]; rfl)
                have x2 : w7.cell? ⟨g10', b, none⟩ = some (.int .i64 xb.vb) := G10 b _ (by rw [List.getElem?_append_left (by simpa using hbl), List.getElem?_map, hmb]; rfl)
                have x3 : w7.cell? ⟨g11', b, none⟩ = some (.string xb.val) := G11 b _ (by rw [List.getElem?_append_left (by simpa using hbl), List.getElem?_map, hmb]; rfl)
                have x4 : w7.cell? ⟨g9', T.length, none⟩ = some (.int .i64 ma) := G9 T.length _ (by rw [List.getElem?_append_right (by simp)]; simp)
                have x5 : w7.cell? ⟨g10', T.length, none⟩ = some (.int .i64 mv) := G10 T.length _ (by rw [List.getElem?_append_right (by simp)]; simp)
                have x6 : w7.cell? ⟨g11', T.length, none⟩ = some (.string es) := G11 T.length _ (by rw [List.getElem?_append_right (by simp)]; simp)
                have i1 : (0 : Int) ≤ (b : Int) := by omega
                have i2 : (b : Int) < (T.length : Int) + 1 := by omega
                have i3 : (T.length : Int) < (T.length : Int) + 1 := by omega
                have i4 : decide ((b : Int) < 0) = false := decide_eq_false (by omega)
                have hbs : (blessB xb.acc xb.vb xb.val ma mv es = true ↔ LtMsg xb ⟨4, ma, mb, mv, es⟩) := bless_lt hxv
                have CB := fun W => bless_calls xb.acc xb.vb xb.val ma mv es W
                clear G9 G10 G11 HS7
                by_cases hless : LtMsg xb ⟨4, ma, mb, mv, es⟩
                · rw [hbs.2 hless] at CB
                  have HR : Hid (InvB mb (addL ⟨4, ma, mb, mv, es⟩ S) (T ++ [⟨4, ma, mb, mv, es⟩]) T.length) := HI.out.newTop hisV HNEW.out (fun x hx => by
                    rcases hmax x hx with rfl | h
                    · exact hless
                    · exact LtMsg_trans h hless)
                  have HCB : Hid (∀ W, Calls Yba.prog 14 #[.int .i64 xb.acc, .int .i64 xb.vb, .string xb.val, .int .i64 ma, .int .i64 mv, .string es] W fun e w' => e = .returned (.bool true) ∧ w' = W) := CB
                  clear hT HI HNEW hisV hless hmax hmb hxv CB hbs
                  go_wp2_with fail
                  go_quiet ((go_at_call 14; exact Calls.quiet_of_same (HCB.out _)))
                  go_wp2
                  go_roundw
                  case rel => exact ⟨k + 1, addL ⟨4, ma, mb, mv, es⟩ S, T ++ [(⟨4, ma, mb, mv, es⟩ : Msg)], T.length, vK3, by omega, by go_num, rfl, HSE.out.later (below_drewN (Below.refl _ _) _), HR, hSl', hlen7⟩
                  case measure => simp [intOf]; omega
                · rw [Bool.eq_false_iff.2 (fun h => hless (hbs.1 h))] at CB
                  have HR : Hid (InvB mb (addL ⟨4, ma, mb, mv, es⟩ S) (T ++ [⟨4, ma, mb, mv, es⟩]) b) := HI.out.newLow hisV HNEW.out rfl hmb hmax hless
                  have HCB : Hid (∀ W, Calls Yba.prog 14 #[.int .i64 xb.acc, .int .i64 xb.vb, .string xb.val, .int .i64 ma, .int .i64 mv, .string es] W fun e w' => e = .returned (.bool false) ∧ w' = W) := CB
                  clear hT HI HNEW hisV hless hmax hmb hxv CB hbs
                  go_wp2_with fail
                  go_quiet ((go_at_call 14; exact Calls.quiet_of_same (HCB.out _)))
                  go_wp2
                  go_roundw
                  case rel => exact ⟨k + 1, addL ⟨4, ma, mb, mv, es⟩ S, T ++ [(⟨4, ma, mb, mv, es⟩ : Msg)], b, vK3, by omega, by go_num, rfl, HSE.out.later (below_drewN (Below.refl _ _) _), HR, hSl', hlen7⟩
                  case measure => simp [intOf]; omega
        · have t1 : (mk != 4) = false := by rw [hk4]; rfl
          have t2 : (mb != lb) = true := by rw [bne_iff_ne]; exact hml
          have HR : Hid (InvB lb (addL ⟨mk, ma, mb, mv, es⟩ S) T best) := HI.out.skip (fun h => hml h.2)
          clear hk4 hml HI
          go_wp2
          go_roundw
          case rel => exact ⟨k + 1, _, T, best, vK3, by omega, by go_num, rfl, HS3, HR, hSl', by omega⟩
          case measure => simp [intOf]; omega
      · have t1 : (mk != 4) = true := by rw [bne_iff_ne]; exact hk4
        have HR : Hid (InvB lb (addL ⟨mk, ma, mb, mv, es⟩ S) T best) := HI.out.skip (fun h => hk4 h.1)
        clear hk4 HI
        go_wp2
        go_roundw
        case rel => exact ⟨k + 1, _, T, best, vK3, by omega, by go_num, rfl, HS3, HR, hSl', by omega⟩
        case measure => simp [intOf]; omega
    · obtain rfl : k = len := by omega
      have hsz : w.heap.size < wr.heap.size := lt_of_block HS.out.lead
      obtain ⟨aK, cK, gK, rfl, _, _, hcK, _, _, _⟩ := own_msgs HS.out.known
      have x0 : wr.cell? ⟨w.heap.size, 0, none⟩ = some (.int .i64 lb) := by simp [World.cell?, HS.out.lead]
      have x1 : wr.cell? ⟨w.heap.size, 1, none⟩ = some (.int .i64 q) := by simp [World.cell?, HS.out.lead]
      have x3 : wr.cell? ⟨w.heap.size, 3, none⟩ = some (.slice aK S.length cK) := by simp [World.cell?, HS.out.lead]
      have CC : Hid (Calls Yba.prog 15 #[.pointer (some ⟨w.heap.size, 0, none⟩)] wr (ChPost S (atKB 4 lb) q wr)) := chosen_calls (w.heap.size + 1) w.heap.size _ S lb q wr (by omega) HI.out.sorted HS.out.known x0 x1 x3
      obtain ⟨a9, c9, g9, rfl, n9, m9, _, _⟩ := own_cells HS.out.accs
      obtain ⟨a11, c11, g11, rfl, n11, m11, h11, k11⟩ := own_cells HS.out.vals
      simp only [List.length_map] at n9 n11 h11 ⊢
      have hB : Hid (Below w.heap.size w wr) := HS.out.below
      have hSL : (S.length : Int) ≤ 513 := by omega
      have hge : ¬ ((k : Int) < (k : Int)) := by omega
      by_cases hT : T = []
      · have hbest := HI.out.bnone hT
        subst hbest
        subst hT
        have HI2 : Hid (InvB lb S [] (-1)) := HI
        clear HI HS h11 k11 hlt hk
        go_wp2_with fail
        refine Calls.mono CC.out ?_
        rintro e w2 ⟨lo, hi, hst, hb2, hres⟩
        obtain ⟨u1, u2, u3⟩ := HI2.out.count hst
        have y0 := cell_later hb2 x0
        have y1 := cell_later hb2 x1
        have y3 := cell_later hb2 x3
        have HF : Hid (Below w.heap.size w w2) := hB.out.trans (hb2.mono hB.out.size)
        rw [← u1] at hres
        have hlv := u2 rfl
        rw [hlv] at hres
        clear u1 u2 u3 hst hb2 x0 x1 x3 CC hlv
        rcases hres with ⟨hq, rfl⟩ | ⟨hq, rfl⟩
        · have hq' : (0 : Int) < q := by simpa using hq
          clear hq
          go_wp2
          go_ret
          exact ⟨rfl, HF.out⟩
        · have hq' : ¬ (0 : Int) < q := by simpa using hq
          clear hq
          go_wp2
          go_ret
          exact ⟨rfl, HF.out⟩
      · obtain ⟨b, mb, hbest, hmb, hmax⟩ := HI.out.bsome hT
        subst hbest
        have hbl := (List.getElem?_eq_some_iff.1 hmb).1
        obtain rfl := h11 (by omega)
        have z1 : wr.cell? ⟨g11, b, none⟩ = some (.string mb.val) := k11 b mb.val (by rw [List.getElem?_map, hmb]; rfl)
        have i1 : (0 : Int) ≤ (b : Int) := by omega
        have i2 : (b : Int) < (T.length : Int) := by omega
        have HI2 : Hid (InvB lb S T b) := HI
        have HM2 : Hid (T[b]? = some mb ∧ ∀ x ∈ T, x = mb ∨ LtMsg x mb) := ⟨hmb, hmax⟩
        generalize hmv : mb.val = vv at z1
        have HMV : Hid (mb.val = vv) := hmv
        have hTl2 : (T.length : Int) ≤ 512 := by omega
        clear HI HS h11 k11 hlt hk hT hmb hmax hmv
        go_wp2_with fail
        refine Calls.mono CC.out ?_
        rintro e w2 ⟨lo, hi, hst, hb2, hres⟩
        obtain ⟨u1, u2, u3⟩ := HI2.out.count hst
        have y0 := cell_later hb2 x0
        have y1 := cell_later hb2 x1
        have y3 := cell_later hb2 x3
        have HF : Hid (Below w.heap.size w w2) := hB.out.trans (hb2.mono hB.out.size)
        rw [← u1] at hres
        have hlv := u3 b mb HM2.out.1 HM2.out.2
        rw [hlv, HMV.out] at hres
        clear u1 u2 u3 hst hb2 x0 x1 x3 CC hlv z1
        rcases hres with ⟨hq, rfl⟩ | ⟨hq, rfl⟩
        · go_wp2
          go_ret
          exact ⟨rfl, HF.out⟩
        · go_wp2
          go_ret
          exact ⟨rfl, HF.out⟩
end Go.Proofs.Ybulkbivk
