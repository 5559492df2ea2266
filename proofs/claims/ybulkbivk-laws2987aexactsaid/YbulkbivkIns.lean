/-
  CONTRACT: slices.Insert (function 20) of one message.
-/
import Derived.Test.YbulkbivkBal
import Derived.Shelf.Spec.SlicesInsertGrow
import Derived.Laws.CopyOwn
import Derived.Deep.RegionLaw
namespace Go.Proofs.Ybulkbivk
open Go.RowKit
set_option linter.unusedVariables false

/-- 'copy' where an element takes k cells: n elements go over. -/
theorem run_copy_rowK {P : Program} (w : World) (dT sT ty elem : TypeId) (g o dLen dCap : Nat) (a : Addr) (sLen sCap : Nat) (cur : List Value) (t : TypeId) (cs : List Value) (k n : Nat)
    (hu : P.underlying dT = some (.slice elem)) (hs : (P.info? elem).map (·.size) = some k)
    (hg : w.heap[g]? = some (.cells cur.toArray t (0, 0))) (hn : Nat.min sLen dLen = n) (hcl : cs.length = n * k)
    (hsrc : ∀ j v, cs[j]? = some v → w.cell? (a.add j) = some v) (hfit : o + cs.length ≤ cur.length) (h1 : ∀ v ∈ cs, v.oneCell' = true) :
    (Builtin.copy_ #[dT, sT] ty #[.slice (some ⟨g, o, none⟩) dLen dCap, .slice (some a) sLen sCap]).run P w =
      .ok (goInt n) (w.setRow g (splice cur o cs).toArray) := by
  have hl := run_loadCells_list (P := P) w a cs hsrc
  have hst := run_storeCells_at P g o t cs 0 cur.toArray w hg (by simpa using hfit) h1
  cases hq : P.info? elem with
  | none => simp [hq] at hs
  | some i =>
    have hi : i.size = k := by simpa [hq] using hs
    simp [Builtin.copy_, run_underlying hu, Builtin.lenOf, Builtin.firstCells, sizeOf, typeInfo, hq, hi, hn, ← hcl, hl, hst, splice]

def cellsOf (L : List Msg) : List Value := L.flatMap Msg.cells
theorem cellsOf_length : ∀ L : List Msg, (cellsOf L).length = L.length * 5
  | [] => rfl
  | m :: L => by have := cellsOf_length L; simp only [cellsOf, List.flatMap_cons, List.length_append, Msg.cells_length, List.length_cons] at this ⊢; omega
theorem cellsOf_append (A B : List Msg) : cellsOf (A ++ B) = cellsOf A ++ cellsOf B := by simp [cellsOf]
theorem cellsOf_cons (m : Msg) (L : List Msg) : cellsOf (m :: L) = m.cells ++ cellsOf L := by simp [cellsOf]
theorem cellsOf_one (L : List Msg) : ∀ v ∈ cellsOf L, v.oneCell' = true := by
  intro v hv
  simp only [cellsOf, List.mem_flatMap] at hv
  obtain ⟨m, _, hm⟩ := hv
  exact m.cells_one v hm

theorem size33 : (Yba.prog.info? 33).map (·.size) = some 5 := by kernel_rfl
theorem info33 : (Yba.prog.info? 33).map (fun i => (i.zero, i.size, i.bytes)) = some (some (.agg #[.int .i64 0, .int .i64 0, .int .i64 0, .int .i64 0, .string ⟨#[]⟩]), 5, 48) := by kernel_rfl
theorem sizeOf33 (w : World) : (sizeOf 33).run Yba.prog w = .ok 5 w := by kernel_rfl

theorem row_cell {w : World} {g : Nat} {cs : List Value} {t : TypeId} (h : w.heap[g]? = some (.cells cs.toArray t (0, 0))) {j : Nat} {v : Value} (hj : cs[j]? = some v) :
    w.cell? ⟨g, j, none⟩ = some v := by
  simp [World.cell?, h, hj]

set_option maxHeartbeats 4000000 in
set_option maxRecDepth 100000 in
theorem insert_shift (g n cap i vb : Nat) (cur X mc : List Value) (w : World) (hi : i < n) (hroom : n + 1 ≤ cap) (hn : n ≤ 4096) (hcap : cap ≤ 9223372036854775807) (hvg : vb ≠ g)
    (hg : w.heap[g]? = some (.cells cur.toArray 33 (0, 0))) (hv : w.heap[vb]? = some (.cells mc.toArray 33 (0, 0))) (hcl : cur.length = cap * 5) (hml : mc.length = 5)
    (hX : X.length = (n - i) * 5) (hXc : ∀ j v, X[j]? = some v → cur[i * 5 + j]? = some v) (h1X : ∀ v ∈ X, v.oneCell' = true) (h1m : ∀ v ∈ mc, v.oneCell' = true) :
    Calls Yba.prog 20 #[.slice (some ⟨g, 0, none⟩) n cap, .int .i64 i, .slice (some ⟨vb, 0, none⟩) 1 1] w fun e w' =>
      e = .returned (.slice (some ⟨g, 0, none⟩) (n + 1) cap) ∧ Hid (w'.heap[g]? = some (.cells (splice (splice cur ((i + 1) * 5) X) (i * 5) mc).toArray 33 (0, 0))) ∧ w.grownBy w' (some g) := by
  have hov : ∀ W lb cb, W.heap = w.heap → (callFunc 29 #[.slice (some ⟨vb, 0, none⟩) 1 1, .slice (some ⟨g, (i + 1) * 5, none⟩) lb cb]).run Yba.prog W = .ok (.value (.bool false)) W := fun W lb cb hW => by
    rw [run_callFunc_extern Yba.func29 (by kernel_rfl) (by kernel_rfl) (by kernel_rfl) (e := Extern.SlicesOverlaps.overlaps #[24, 24] #[4]) (by kernel_rfl),
      Lib.run_overlaps_apart W 24 4 33 Yba.underlying24 5 sizeOf33 ⟨vb, 0, none⟩ ⟨g, (i + 1) * 5, none⟩ 1 1 lb cb hvg 33 33 5 (cap * 5) (by simp [World.shape?, hW, hv, hml]) (by simp [World.shape?, hW, hg, hcl]) (by omega) (by simp [World.frozen?, hW, hv]) (by simp [World.frozen?, hW, hv])]
    rfl
  have b1 : (0 : Int) ≤ (i : Int) := by omega
  have b2 : (i : Int) < (n : Int) := by omega
  have b3 : (i : Int) + 1 ≤ (n : Int) := by omega
  have b4 : (n : Int) + 1 ≤ (cap : Int) := by omega
  have b5 : (n : Int) ≤ 4096 := by omega
  have z2 : ((i : Int) == (n : Int)) = false := by simp; omega
  have e1 : ¬ (cap = i) := by omega
  have e2 : ¬ (cap = i + 1) := by omega
  have t1 : ((i : Int) + 1).toNat = i + 1 := by omega
  have t2 : ((n : Int) + 1).toNat = n + 1 := by omega
  have hw1 : IntKind.i64.wrap ((i : Int) + 1) = (i : Int) + 1 := by rw [IntKind.wrap_i64]; omega
  have b6 : (0 : Int) ≤ (i : Int) + 1 := by omega
  have b7 : (i : Int) + 1 ≤ (n : Int) + 1 := by omega
  have b8 : (i : Int) ≤ (n : Int) + 1 := by omega
  have HG : Hid (w.heap[g]? = some (.cells cur.toArray 33 (0, 0))) := hg
  have HV : Hid (w.heap[vb]? = some (.cells mc.toArray 33 (0, 0))) := hv
  have HX : Hid (X.length = (n - i) * 5 ∧ cur.length = cap * 5 ∧ mc.length = 5) := ⟨hX, hcl, hml⟩
  clear hg hv hX hcl hml
  have hcp1 : ∀ ty dc sc, (Builtin.copy_ #[25, 25] ty #[.slice (some ⟨g, (i + 1) * 5, none⟩) (n - i) dc, .slice (some ⟨g, i * 5, none⟩) (n + 1 - i) sc]).run Yba.prog w.drew = .ok (goInt (n - i : Nat)) (w.drew.setRow g (splice cur ((i + 1) * 5) X).toArray) := fun ty dc sc =>
    run_copy_rowK w.drew 25 25 ty 33 g ((i + 1) * 5) (n - i) dc ⟨g, i * 5, none⟩ (n + 1 - i) sc cur 33 X 5 (n - i) Yba.underlying25 size33 HG.out (by simp only [Nat.min_def]; split <;> omega) HX.out.1
      (fun j v hj => by rw [Addr.add_lit]; exact row_cell HG.out (hXc j v hj)) (by rw [HX.out.1, HX.out.2.1]; omega) h1X
  have hlen1 : (splice cur ((i + 1) * 5) X).length = cap * 5 := by rw [length_splice _ _ _ (by rw [HX.out.1, HX.out.2.1]; omega), HX.out.2.1]
  have hcp2 : ∀ (W : World), W.heap = (w.setRow g (splice cur ((i + 1) * 5) X).toArray).heap → ∀ ty dc, (Builtin.copy_ #[25, 24] ty #[.slice (some ⟨g, i * 5, none⟩) (n + 1 - i) dc, .slice (some ⟨vb, 0, none⟩) 1 1]).run Yba.prog W = .ok (goInt (1 : Nat)) (W.setRow g (splice (splice cur ((i + 1) * 5) X) (i * 5) mc).toArray) := fun W hW ty dc =>
    run_copy_rowK W 25 24 ty 33 g (i * 5) (n + 1 - i) dc ⟨vb, 0, none⟩ 1 1 _ 33 mc 5 1 Yba.underlying25 size33 (by rw [hW]; exact setRow_heap _ _ _ _ _ _ HG.out) (by simp only [Nat.min_def]; split <;> omega) (by rw [HX.out.2.2])
      (fun j v hj => by rw [Addr.add_lit]; exact row_cell (by rw [hW, setRow_other _ _ _ _ hvg]; exact HV.out) (by simpa using hj)) (by rw [hlen1, HX.out.2.2]; omega) h1m
  have HL1 : Hid ((splice cur ((i + 1) * 5) X).length = cap * 5) := hlen1
  clear hlen1 hXc
  go_enter Yba.func20, Yba.ntmps20
  go_wp2_with (simp only [hov _ _ _ rfl])
  clear hov
  go_region_law (refine step_copy_runI rfl (.tmp 73) (.tmp 76) 25 25 rfl (.slice (some ⟨g, (i + 1) * 5, none⟩) (n - i) (cap - (i + 1))) (.slice (some ⟨g, i * 5, none⟩) (n + 1 - i) (cap - i)) (by simp [Act.eval, Act.put]) (by simp [Act.eval, Act.put]) (hcp1 _ _ _) ?_)
  have hq := hcp2 (w.drew.setRow g (splice cur ((i + 1) * 5) X).toArray) rfl 3 (cap - i)
  go_wp2
  go_ret
  refine ⟨rfl, ?_, ?_⟩
  · exact setRow_heap _ _ _ _ _ _ (setRow_heap _ _ _ _ _ _ HG.out)
  · exact ⟨rfl, rfl, rfl, by simp, fun k hk hne => by
      have hkg : k ≠ g := fun h => hne (by rw [h])
      rw [setRow_other _ _ _ _ hkg, setRow_other _ _ _ _ hkg]; rfl⟩

theorem append_types (w : World) (ty : TypeId) (a b : Option Addr) (n c m d : Nat) :
    (Builtin.append_ #[25, 24] ty #[.slice a n c, .slice b m d]).run Yba.prog w = (Builtin.append_ #[25, 25] ty #[.slice a n c, .slice b m d]).run Yba.prog w := by
  simp [Builtin.append_, run_underlying Yba.underlying24, run_underlying Yba.underlying25]

theorem own_shape {w : World} {base : Nat} {e : TypeId} {size : Nat} {v : Value} {n : Nat} {xs : List Value} (h : w.ownsRow base e size v n xs) :
    (v = .slice none 0 0 ∧ n = 0) ∨ ∃ g cap, v = .slice (some ⟨g, 0, none⟩) n cap ∧ n ≤ cap ∧ cap ≤ 9223372036854775807 := by
  rcases h.2 with ⟨h1, h2⟩ | ⟨g, cap, cur, h1, _, _, h2, h3, _⟩
  · exact .inl ⟨h1, h2⟩
  · exact .inr ⟨g, cap, h1, h2, by unfold maxLen at h3; omega⟩

/-- What slices.Insert leaves: the grown row is owned. -/
def InsPost (base n : Nat) (v : Value) (ys : List Value) (w : World) (e : Ending) (w' : World) : Prop :=
  ∃ v', e = .returned v' ∧ w'.ownsRow base 33 5 v' (n + 1) ys ∧ w.grownBy w' v.ownBlock

set_option maxHeartbeats 4000000 in
set_option maxRecDepth 100000 in
theorem insert_end (base : Nat) (v : Value) (n vb : Nat) (xs mc : List Value) (w : World) (hn : n ≤ 4096) (hown : w.ownsRow base 33 5 v n xs) (hbase : base ≤ w.heap.size)
    (hv : w.heap[vb]? = some (.cells mc.toArray 33 (0, 0))) (hml : mc.length = 5) (h1m : ∀ v ∈ mc, v.oneCell' = true) :
    Calls Yba.prog 20 #[v, .int .i64 n, .slice (some ⟨vb, 0, none⟩) 1 1] w (InsPost base n v (xs ++ mc) w) := by
  obtain ⟨i0, hi0, hz0, hz1, hz2⟩ := info_parts info33
  have hrun : ∀ ty, ∃ v' w', (Builtin.append_ #[25, 25] ty #[v, .slice (some ⟨vb, 0, none⟩) 1 1]).run Yba.prog w = .ok v' w' ∧ w'.ownsRow base 33 5 v' (n + 1) (xs ++ mc) ∧ w.grownBy w' v.ownBlock ∧ (v' = .slice none 0 0 ↔ v = .slice none 0 0 ∧ 1 = 0) := fun ty =>
    run_append_own w base 25 ty 33 i0 _ 5 48 Yba.underlying25 hi0 hz0 hz1 hz2 rfl (by omega) v n xs hown ⟨vb, 0, none⟩ 1 1 mc (by rw [hml]) (fun j u hj => by rw [Addr.add_lit]; exact row_cell hv (by simpa using hj)) h1m (by unfold maxLen; omega) (by omega) hbase
  obtain ⟨v', w', hr, ho, hg, _⟩ := hrun 25
  have HO : Hid (w'.ownsRow base 33 5 v' (n + 1) (xs ++ mc)) := ho
  have HGR : Hid (w.grownBy w' v.ownBlock) := hg
  have hsh := own_shape hown
  clear hrun ho hg hv hown hi0 hz0 hz1 hz2
  have b1 : (0 : Int) ≤ (n : Int) := by omega
  rcases hsh with ⟨rfl, rfl⟩ | ⟨g, cap, rfl, hnc, hcap⟩
  · have hrz : (Builtin.append_ #[25, 24] 25 #[.slice none 0 0, .slice (some ⟨vb, 0, none⟩) 1 1]).run Yba.prog w = .ok v' w' := by rw [append_types]; exact hr
    clear hr
    go_enter Yba.func20, Yba.ntmps20
    go_wp2_with (at_builtin; refine Lib.wpList_append_run _ rfl (.tmp 23) (.tmp 24) 25 24 rfl _ _ rfl rfl _ _ hrz ?_)
    go_ret
    exact ⟨v', rfl, HO.out, HGR.out⟩
  · have hrz : (Builtin.append_ #[25, 24] 25 #[.slice (some ⟨g, 0, none⟩) n cap, .slice (some ⟨vb, 0, none⟩) 1 1]).run Yba.prog w = .ok v' w' := by rw [append_types]; exact hr
    clear hr
    have b2 : (n : Int) ≤ (cap : Int) := by omega
    go_enter Yba.func20, Yba.ntmps20
    go_wp2_with (at_builtin; refine Lib.wpList_append_run _ rfl (.tmp 23) (.tmp 24) 25 24 rfl _ _ rfl rfl _ _ hrz ?_)
    all_goals go_ret
    all_goals exact ⟨v', rfl, HO.out, HGR.out⟩

theorem size_zeros (z : Array Value) (n : Nat) : (Builtin.zeroCells z n).size = n * z.size := by simp [Builtin.zeroCells]

set_option maxHeartbeats 4000000 in
set_option maxRecDepth 100000 in
theorem insert_grow (g n cap i vb : Nat) (cur X mc : List Value) (w : World) (hi : i < n) (hnc : n ≤ cap) (hroom : cap < n + 1) (hn : n ≤ 4096) (hgw : g < w.heap.size) (hvw : vb < w.heap.size)
    (hg : w.heap[g]? = some (.cells cur.toArray 33 (0, 0))) (hv : w.heap[vb]? = some (.cells mc.toArray 33 (0, 0))) (hcl : cur.length = cap * 5) (hml : mc.length = 5)
    (hX : X.length = (n - i) * 5) (hXc : ∀ j v, X[j]? = some v → cur[i * 5 + j]? = some v) (h1X : ∀ v ∈ X, v.oneCell' = true) (h1m : ∀ v ∈ mc, v.oneCell' = true) :
    Calls Yba.prog 20 #[.slice (some ⟨g, 0, none⟩) n cap, .int .i64 i, .slice (some ⟨vb, 0, none⟩) 1 1] w fun e w' =>
      ∃ G R, e = .returned (.slice (some ⟨w.heap.size, 0, none⟩) (n + 1) G) ∧ n + 1 ≤ G ∧ G ≤ maxLen ∧ R.length = G * 5 ∧ R.take (i * 5) = cur.take (i * 5) ∧
        Hid (w'.heap[w.heap.size]? = some (.cells (splice (splice R (i * 5) mc) ((i + 1) * 5) X).toArray 33 (0, 0))) ∧ w.grownBy w' none := by
  obtain ⟨i0, hi0, hz0, hz1, hz2⟩ := info_parts info33
  have hold : (Builtin.firstCells i0.size i (.slice (some ⟨g, 0, none⟩) i cap)).run Yba.prog w.drew = .ok (cur.take (i * 5)).toArray w.drew := by
    rw [hz1]
    exact run_firstCells_some w.drew 5 i ⟨g, 0, none⟩ i cap (cur.take (i * 5)) (by rw [List.length_take]; omega) (fun j v hj => by
      rw [Addr.add_lit]
      rw [List.getElem?_take] at hj
      split at hj
      · exact row_cell hg (by simpa using hj)
      · cases hj)
  obtain ⟨G, hG⟩ : ∃ G, G = grownCap w (n + 1) cap 33 := ⟨_, rfl⟩
  obtain ⟨R, hR⟩ : ∃ R : List Value, R.toArray = (cur.take (i * 5)).toArray ++ Builtin.zeroCells (Value.agg #[.int .i64 0, .int .i64 0, .int .i64 0, .int .i64 0, .string ⟨#[]⟩]).cells (n + 1 - i) ++ Builtin.zeroCells (Value.agg #[.int .i64 0, .int .i64 0, .int .i64 0, .int .i64 0, .string ⟨#[]⟩]).cells (G - (n + 1)) := ⟨_, Array.toArray_toList⟩
  have hGn : n + 1 ≤ G := by rw [hG]; exact grownCap_ge w _ _ _
  have hGm : G ≤ maxLen := by rw [hG]; exact grownCap_le_maxLen w (n + 1) cap 33 (by unfold maxLen; omega)
  have hRl : R.length = G * 5 := by
    have := congrArg Array.size hR
    rw [Array.size_append, Array.size_append, size_zeros, size_zeros] at this
    simp [Value.cells] at this
    omega
  have hRt : R.take (i * 5) = cur.take (i * 5) := by
    have h2 : R = cur.take (i * 5) ++ (Builtin.zeroCells (Value.agg #[.int .i64 0, .int .i64 0, .int .i64 0, .int .i64 0, .string ⟨#[]⟩]).cells (n + 1 - i)).toList ++ (Builtin.zeroCells (Value.agg #[.int .i64 0, .int .i64 0, .int .i64 0, .int .i64 0, .string ⟨#[]⟩]).cells (G - (n + 1))).toList := by
      have := congrArg Array.toList hR
      simpa using this
    rw [h2, List.append_assoc, List.take_append_of_le_length (by rw [List.length_take]; omega), List.take_take]
    simp
  have hrz : (Builtin.append_ #[25, 3] 25 #[.slice (some ⟨g, 0, none⟩) i cap, .int .i64 ((n : Int) + 1 - (i : Int))]).run Yba.prog w = .ok (.slice (some ⟨w.heap.size, 0, none⟩) (n + 1) G) (w.drew.alloc (.cells R.toArray 33)) := by
    have h := Lib.run_append_grow_zeros w 25 3 25 33 i0 _ .i64 .i64 Yba.underlying25 Yba.underlying3 hi0 hz0 (some ⟨g, 0, none⟩) i cap (cur.take (i * 5)) hold (n + 1 - i) (by omega) (by rw [hz1]; omega) (by omega) (by omega) (by rw [hz2]; omega) (by rw [hz2, show i + (n + 1 - i) = n + 1 by omega]; exact growslice_fits hroom (by omega))
    rw [show i + (n + 1 - i) = n + 1 by omega, ← hG, ← hR] at h
    rw [show (n : Int) + 1 - (i : Int) = ((n + 1 - i : Nat) : Int) by omega]
    exact h
  have N1 : ((w.alloc (.cells R.toArray 33)).drew).heap[w.heap.size]? = some (.cells R.toArray 33 (0, 0)) := heap_alloc_new w _
  have O1 : ∀ k, k < w.heap.size → ((w.alloc (.cells R.toArray 33)).drew).heap[k]? = w.heap[k]? := fun k hk => Below.heap_alloc w _ k hk
  have hq1 : (Builtin.copy_ #[25, 24] 3 #[.slice (some ⟨w.heap.size, i * 5, none⟩) (n + 1 - i) (G - i), .slice (some ⟨vb, 0, none⟩) 1 1]).run Yba.prog (w.alloc (.cells R.toArray 33)).drew = .ok (goInt (1 : Nat)) (((w.alloc (.cells R.toArray 33)).drew).setRow w.heap.size (splice R (i * 5) mc).toArray) :=
    run_copy_rowK _ 25 24 3 33 w.heap.size (i * 5) (n + 1 - i) (G - i) ⟨vb, 0, none⟩ 1 1 R 33 mc 5 1 Yba.underlying25 size33 N1 (by simp only [Nat.min_def]; split <;> omega) (by rw [hml])
      (fun j v hj => by rw [Addr.add_lit]; exact row_cell (by rw [O1 vb hvw]; exact hv) (by simpa using hj)) (by rw [hRl, hml]; omega) h1m
  have hl1 : (splice R (i * 5) mc).length = G * 5 := by rw [length_splice _ _ _ (by rw [hRl, hml]; omega), hRl]
  have hcp : ∀ W : World, W.heap = (((w.alloc (.cells R.toArray 33)).drew).setRow w.heap.size (splice R (i * 5) mc).toArray).heap → ∀ ty dc sc, (Builtin.copy_ #[25, 25] ty #[.slice (some ⟨w.heap.size, (i + 1) * 5, none⟩) (n - i) dc, .slice (some ⟨g, i * 5, none⟩) (n - i) sc]).run Yba.prog W = .ok (goInt (n - i : Nat)) (W.setRow w.heap.size (splice (splice R (i * 5) mc) ((i + 1) * 5) X).toArray) := fun W hW ty dc sc =>
    run_copy_rowK W 25 25 ty 33 w.heap.size ((i + 1) * 5) (n - i) dc ⟨g, i * 5, none⟩ (n - i) sc _ 33 X 5 (n - i) Yba.underlying25 size33 (by rw [hW]; exact setRow_heap _ _ _ _ _ _ N1) (by simp only [Nat.min_def]; split <;> omega) hX
      (fun j v hj => by rw [Addr.add_lit]; exact row_cell (by rw [hW, setRow_other _ _ _ _ (by omega), O1 g hgw]; exact hg) (hXc j v hj)) (by rw [hl1, hX]; omega) h1X
  have b1 : (0 : Int) ≤ (i : Int) := by omega
  have b2 : (i : Int) < (n : Int) := by omega
  have b4 : (n : Int) ≤ (cap : Int) := by omega
  have b5 : (n : Int) ≤ 4096 := by omega
  have b10 : i ≤ n := by omega
  have b6 : (cap : Int) < (n : Int) + 1 := by omega
  have z2 : ((i : Int) == (n : Int)) = false := by simp; omega
  have e1 : ¬ (cap = i) := by omega
  have e2 : ¬ (G = i) := by omega
  have e3 : ¬ (G = i + 1) := by omega
  have hw1 : IntKind.i64.wrap ((i : Int) + 1) = (i : Int) + 1 := by rw [IntKind.wrap_i64]; omega
  have b7 : (0 : Int) ≤ (i : Int) + 1 := by omega
  have b8 : (i : Int) + 1 ≤ (n : Int) + 1 := by omega
  have b9 : (i : Int) ≤ (n : Int) + 1 := by omega
  have t1 : ((i : Int) + 1).toNat = i + 1 := by omega
  have hcap : (cap : Int) ≤ 9223372036854775807 := by omega
  have hGc : (G : Int) ≤ 9223372036854775807 := by unfold maxLen at hGm; omega
  have HN : Hid _ := N1
  have HRES : Hid (n + 1 ≤ G ∧ G ≤ maxLen ∧ R.length = G * 5 ∧ R.take (i * 5) = cur.take (i * 5)) := ⟨hGn, hGm, hRl, hRt⟩
  clear hold hR hG hRl hRt hg hv hcl hml hX hXc hl1 N1 O1 hi0 hz0 hz1 hz2 hGm h1X h1m
  go_enter Yba.func20, Yba.ntmps20
  go_wp2_with (at_builtin; refine Lib.wpList_append_run _ rfl (.tmp 34) (.tmp 39) 25 3 rfl _ _ rfl rfl _ _ hrz ?_)
  go_region_law (refine step_copy_runI rfl (.tmp 50) (.tmp 53) 25 25 rfl (.slice (some ⟨w.heap.size, (i + 1) * 5, none⟩) (n - i) (G - (i + 1))) (.slice (some ⟨g, i * 5, none⟩) (n - i) (cap - i)) (by simp [Act.eval, Act.put]) (by simp [Act.eval, Act.put]) (hcp (((w.alloc (.cells R.toArray 33)).drew).setRow w.heap.size (splice R (i * 5) mc).toArray).drew rfl _ _ _) ?_)
  go_wp2
  go_ret
  refine ⟨G, R, rfl, HRES.out.1, HRES.out.2.1, HRES.out.2.2.1, HRES.out.2.2.2, ?_, ?_⟩
  · exact setRow_heap _ _ _ _ _ _ (setRow_heap _ _ _ _ _ _ HN.out)
  · exact ⟨rfl, rfl, rfl, by simp, fun k hk _ => by
      have hkg : k ≠ w.heap.size := by omega
      rw [setRow_other _ _ _ _ hkg]
      show (((w.alloc (.cells R.toArray 33)).drew).setRow w.heap.size _).heap[k]? = _
      rw [setRow_other _ _ _ _ hkg]
      exact Below.heap_alloc w _ k hk⟩

theorem take_append3 {α : Type} (A B C D : List α) (k : Nat) (h : A.length + B.length + C.length = k) : (A ++ (B ++ (C ++ D))).take k = A ++ (B ++ C) := by
  have e : A ++ (B ++ (C ++ D)) = (A ++ (B ++ C)) ++ D := by simp
  rw [e, List.take_append_of_le_length (by simp; omega), List.take_of_length_le (by simp; omega)]

theorem splice_shift (cur X mc A : List Value) (a : Nat) (hA : cur.take a = A) (hal : A.length = a) (hm : mc.length = 5) (hfit : a + 5 + X.length ≤ cur.length) (k : Nat) (hk : a + 5 + X.length = k) :
    (splice (splice cur (a + 5) X) a mc).take k = A ++ (mc ++ X) := by
  have e1 : (splice cur (a + 5) X).take a = A := by
    unfold splice
    rw [List.take_append_of_le_length (by rw [List.length_take]; omega), List.take_take, Nat.min_eq_left (by omega)]
    exact hA
  have e2 : (splice cur (a + 5) X).drop (a + 5) = X ++ cur.drop (a + 5 + X.length) := by
    unfold splice
    rw [List.drop_append, List.drop_eq_nil_of_le (by rw [List.length_take]; omega), List.length_take, Nat.min_eq_left (by omega)]
    simp
  have e3 : splice (splice cur (a + 5) X) a mc = A ++ (mc ++ (X ++ cur.drop (a + 5 + X.length))) := by
    rw [show splice (splice cur (a + 5) X) a mc = (splice cur (a + 5) X).take a ++ (mc ++ (splice cur (a + 5) X).drop (a + mc.length)) from rfl, e1, hm, e2]
  rw [e3]
  exact take_append3 _ _ _ _ _ (by omega)

theorem splice_grow (R X mc A : List Value) (a : Nat) (hA : R.take a = A) (hal : A.length = a) (hm : mc.length = 5) (hfit : a + 5 + X.length ≤ R.length) (k : Nat) (hk : a + 5 + X.length = k) :
    (splice (splice R a mc) (a + 5) X).take k = A ++ (mc ++ X) := by
  have e0 : splice R a mc = (A ++ mc) ++ R.drop (a + 5) := by unfold splice; rw [hA, hm]; simp
  have e1 : (splice R a mc).take (a + 5) = A ++ mc := by
    rw [e0, List.take_append_of_le_length (by simp; omega), List.take_of_length_le (by simp; omega)]
  have e3 : splice (splice R a mc) (a + 5) X = A ++ (mc ++ (X ++ (splice R a mc).drop (a + 5 + X.length))) := by
    rw [show splice (splice R a mc) (a + 5) X = (splice R a mc).take (a + 5) ++ (X ++ (splice R a mc).drop (a + 5 + X.length)) from rfl, e1]; simp
  rw [e3]
  exact take_append3 _ _ _ _ _ (by omega)

theorem insert_calls (base : Nat) (v : Value) (L : List Msg) (i vb : Nat) (m : Msg) (w : World) (hn : L.length ≤ 4095) (hi : i ≤ L.length) (hown : w.ownsRow base 33 5 v L.length (cellsOf L)) (hbase : base ≤ w.heap.size)
    (hv : w.heap[vb]? = some (.cells m.cells.toArray 33 (0, 0))) (hvb : v.ownBlock ≠ some vb) :
    Calls Yba.prog 20 #[v, .int .i64 i, .slice (some ⟨vb, 0, none⟩) 1 1] w (InsPost base L.length v (cellsOf (L.take i ++ m :: L.drop i)) w) := by
  by_cases hin : i = L.length
  · subst hin
    have h := insert_end base v L.length vb (cellsOf L) m.cells w (by omega) hown hbase hv m.cells_length m.cells_one
    have e : cellsOf (L.take L.length ++ m :: L.drop L.length) = cellsOf L ++ m.cells := by
      rw [List.take_of_length_le (Nat.le_refl _), List.drop_of_length_le (Nat.le_refl _), cellsOf_append, cellsOf_cons]; simp [cellsOf]
    rw [e]; exact h
  · have hsplit : cellsOf L = cellsOf (L.take i) ++ cellsOf (L.drop i) := by rw [← cellsOf_append, List.take_append_drop]
    have hA : (cellsOf (L.take i)).length = i * 5 := by rw [cellsOf_length, List.length_take, Nat.min_eq_left hi]
    have hX : (cellsOf (L.drop i)).length = (L.length - i) * 5 := by rw [cellsOf_length, List.length_drop]
    have hfin : cellsOf (L.take i ++ m :: L.drop i) = cellsOf (L.take i) ++ (m.cells ++ cellsOf (L.drop i)) := by rw [cellsOf_append, cellsOf_cons]
    have hflen : (cellsOf (L.take i ++ m :: L.drop i)).length = (L.length + 1) * 5 := by rw [hfin]; simp only [List.length_append, hA, hX, Msg.cells_length]; omega
    rcases hown.2 with ⟨_, h0⟩ | ⟨g, cap, cur, rfl, hbg, hg, hnc, hcm, hcs, htk⟩
    · omega
    have hgl : w.heap[g]? = some (.cells cur.toList.toArray 33 (0, 0)) := by simpa using hg
    have hcl : cur.toList.length = cap * 5 := by simpa using hcs
    have hcur : cur.toList = cellsOf (L.take i) ++ (cellsOf (L.drop i) ++ cur.toList.drop (L.length * 5)) := by
      have := List.take_append_drop (L.length * 5) cur.toList
      rw [htk, hsplit] at this
      simpa using this.symm
    have hXc : ∀ j u, (cellsOf (L.drop i))[j]? = some u → cur.toList[i * 5 + j]? = some u := by
      intro j u hj
      have hjl := (List.getElem?_eq_some_iff.1 hj).1
      rw [hcur, List.getElem?_append_right (by omega), hA, Nat.add_sub_cancel_left, List.getElem?_append_left hjl]
      exact hj
    have hAt : cur.toList.take (i * 5) = cellsOf (L.take i) := by
      rw [hcur, List.take_append_of_le_length (by omega), List.take_of_length_le (by omega)]
    have hvg : vb ≠ g := fun h => hvb (by simp [Value.ownBlock, h])
    have hcm' : cap ≤ 9223372036854775807 := by unfold maxLen at hcm; omega
    by_cases hroom : L.length + 1 ≤ cap
    · refine (insert_shift g L.length cap i vb cur.toList (cellsOf (L.drop i)) m.cells w (by omega) hroom (by omega) hcm' hvg hgl hv hcl m.cells_length hX hXc (cellsOf_one _) m.cells_one).mono ?_
      rintro e w' ⟨rfl, H, hgr⟩
      refine ⟨_, rfl, ⟨hflen, .inr ⟨g, cap, _, rfl, hbg, H.out, hroom, hcm, ?_, ?_⟩⟩, hgr⟩
      · have l1 : (splice cur.toList ((i + 1) * 5) (cellsOf (L.drop i))).length = cap * 5 := by rw [length_splice _ _ _ (by rw [hX, hcl]; omega), hcl]
        simp only [List.size_toArray]
        rw [length_splice _ _ _ (by rw [l1, m.cells_length]; omega), l1]
      · rw [hfin]
        have := splice_shift cur.toList (cellsOf (L.drop i)) m.cells (cellsOf (L.take i)) (i * 5) hAt hA m.cells_length (by rw [hX, hcl]; omega) ((L.length + 1) * 5) (by rw [hX]; omega)
        rw [show i * 5 + 5 = (i + 1) * 5 by omega] at this
        simpa using this
    · refine (insert_grow g L.length cap i vb cur.toList (cellsOf (L.drop i)) m.cells w (by omega) hnc (by omega) (by omega) (Array.getElem?_eq_some_iff.1 hg).1 (Array.getElem?_eq_some_iff.1 hv).1 hgl hv hcl m.cells_length hX hXc (cellsOf_one _) m.cells_one).mono ?_
      rintro e w' ⟨G, R, rfl, hG1, hG2, hR, hRt, H, hgr⟩
      refine ⟨_, rfl, ⟨hflen, .inr ⟨_, G, _, rfl, hbase, H.out, hG1, hG2, ?_, ?_⟩⟩, ⟨hgr.os, hgr.tape, hgr.output, hgr.size, fun k hk _ => hgr.block k hk (by simp)⟩⟩
      · have l1 : (splice R (i * 5) m.cells).length = G * 5 := by rw [length_splice _ _ _ (by rw [hR, m.cells_length]; omega), hR]
        simp only [List.size_toArray]
        rw [length_splice _ _ _ (by rw [l1, hX]; omega), l1]
      · rw [hfin]
        have := splice_grow R (cellsOf (L.drop i)) m.cells (cellsOf (L.take i)) (i * 5) (hRt.trans hAt) hA m.cells_length (by rw [hX, hR]; omega) ((L.length + 1) * 5) (by rw [hX]; omega)
        rw [show i * 5 + 5 = (i + 1) * 5 by omega] at this
        simpa using this
end Go.Proofs.Ybulkbivk
