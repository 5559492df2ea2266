/-
  THE WALK OF LawS2987CPromise (function 3), the sort's contract given.
-/
import Derived.Test.YbulkbivkFmtRest
import Derived.Test.YbulkbivkFmtRowC
import Derived.Lib.SliceRun
namespace Go.Proofs.YbulkbivkFmt
open Go.RowKit Go.Extern.Stop Go.Stop Go.Extern Go.Maps
attribute [local go_sem ↓] Go.wp_at_zero Go.wp_at_succ
set_option linter.unusedVariables false

theorem nil35 (w : World) : (binOp .eql 35 (.slice none 0 0) (.slice none 0 0)).run Ybaf.prog w = .ok (.bool true) w := Lib.run_eql_slice_nil w 35 27 none 0 0 0 0 Ybaf.underlying35
theorem below_drewN {B : Nat} {a w : World} (h : Below B a w) (n : Nat) : Below B a (w.drewN n) := h.trans ⟨rfl, rfl, rfl, Nat.le_refl _, fun _ _ => rfl⟩
theorem guard27 : Ybaf.prog.eqGuardType Ybaf.prog.depth 27 = false := by kernel_rfl

set_option maxHeartbeats 16000000 in
set_option maxRecDepth 100000 in
theorem law_walk (hsort : SortSpec) (F0 : Interp) (first extra fromRaw bRaw mode : Int) (ad : Option Addr) (len cap : Nat) (E : List InC) (w : World) (hF : F0.answers w.tape) (hE : RowC w ad len E)
    (hf0 : 0 ≤ first ∧ first ≤ 255) (he0 : 0 ≤ extra ∧ extra ≤ 255) (hr0 : 0 ≤ fromRaw ∧ fromRaw ≤ 65535) (hb0 : -128 ≤ bRaw ∧ bRaw ≤ 127) (hm0 : 0 ≤ mode ∧ mode ≤ 255) (hlen : len ≤ 1024) :
    Calls Ybaf.prog 3 #[.int .u8 first, .slice ad len cap, .int .u8 extra, .int .u16 fromRaw, .int .i8 bRaw, .int .u8 mode] w fun e w' => e = .returned (.bool true) ∧ Below w.heap.size w w' := by
  obtain ⟨hEl, hok, hcells⟩ := hE
  have HEL : Hid (E.length = len) := hEl
  have HOK : Hid (∀ e ∈ E, e.ok) := hok
  have HCE : Hid _ := hcells
  have HSO : Hid SortSpec := hsort
  have HF : Hid (F0.answers w.tape) := hF
  clear hEl hok hcells hsort hF
  have hl' : (len : Int) ≤ 1024 := by omega
  have hd : decide ((1024 : Int) < (len : Int)) = false := decide_eq_false (by omega)
  have hmm := @run_makeMap Ybaf.prog
  have hgd27 := guard27
  have hz25 := z25
  have hz28 := z28
  obtain ⟨f1, f2⟩ := hf0
  obtain ⟨f, hf⟩ : ∃ f, f = first % 16 := ⟨_, rfl⟩
  have HFE : Hid (first % 16 = f) := hf.symm
  have hfl : 0 ≤ f := by omega
  have hfu : f ≤ 15 := by omega
  clear hf
  go_enter Ybaf.func3, Ybaf.ntmps3
  go_wp2_with fail
  rw [HFE.out]
  go_loopw [17, 45] (fun s17 s45 wr => ∃ (k : Nat) (F : Nat → Option SV) (mx : Int), k ≤ len ∧ s45 = .int .i64 k ∧ s17 = .int .i64 mx ∧ -1 ≤ mx ∧ mx ≤ 255 ∧ Hid (StC w wr f F k)) (fun _ i _ => len - (intOf i).toNat)
  case atStart =>
    exact ⟨0, fun _ => none, -1, Nat.zero_le _, rfl, rfl, by omega, by omega, StC.start w f⟩
  case round =>
    obtain ⟨k, F, mx, hk, rfl, rfl, hx1, hx2, HS⟩ := hrel
    by_cases hlt : k < len
    · obtain ⟨b0, off0, rfl, hb0w, hc⟩ := HCE.out (by omega)
      obtain ⟨e, he⟩ : ∃ e, E[k]? = some e := ⟨_, List.getElem?_eq_getElem (by rw [HEL.out]; omega)⟩
      obtain ⟨c0, c1, c2⟩ := hc k e he
      obtain ⟨r0, r1, r2⟩ := HOK.out e (List.mem_of_getElem? he)
      have hbr := HS.out.below
      have c0' := (hbr.cell (p := ⟨b0, off0 + k * 3, none⟩) hb0w).trans c0
      have c1' := (hbr.cell (p := ⟨b0, off0 + k * 3 + 1, none⟩) hb0w).trans c1
      have c2' := (hbr.cell (p := ⟨b0, off0 + k * 3 + 2, none⟩) hb0w).trans c2
      obtain ⟨i, eb, ev⟩ := e
      simp only at c0' c1' c2' r0 r1 r2
      have hki : (k : Int) < (len : Int) := by omega
      obtain ⟨D, hmap, hMI⟩ := HS.out.mp
      have hbig := HS.out.big
      have hkey : keyOf Ybaf.prog 3 (.int .i64 (f + i)) = some (.int .i64 (f + i)) := keyOf_int_mk Ybaf.underlying3 (WalkArith.wf_i64 (by omega))
      have HKEY : Hid (keyOf Ybaf.prog 3 (.int .i64 (f + i)) = some (.int .i64 (f + i))) := hkey
      have i1 : (0 : Int) ≤ (i : Int) := by omega
      have i2 : (i : Int) < 256 := by omega
      clear c0 c1 c2 hc he hbr hkey
      go_wp2_with (first | (at_mapUpdate; refine wpList_mapUpdate_own _ rfl _ _ _ 29 rfl 3 27 law3 Ybaf.underlying29 svElem (w.heap.size + 2) k D rfl ((hmap.alloc _).alloc _) (by unfold maxLen; omega) _ _ _ rfl rfl HKEY.out _ [] (svElem_mk ⟨f + i, eb, ev⟩) ?_) | fail)
      intro w2 hown2 hgrow2
      try go_frame
      obtain ⟨W1, hW1⟩ : ∃ W1, W1 = (wr.alloc (.cells #[.int .u8 (i : Int), .int .u8 eb, .string ev] 31)).alloc (.cells #[.int .i64 (f + i), .int .i64 eb, .string ev] 27) := ⟨_, rfl⟩
      rw [← hW1] at hgrow2
      have hN : Below wr.heap.size wr W1 := by rw [hW1]; exact ((Below.refl _ _).alloc (Nat.le_refl _) _).alloc (by simp) _
      have hs1 : W1.heap.size = wr.heap.size + 2 := by rw [hW1]; simp
      have q0 : W1.heap[wr.heap.size]? = some (.cells #[.int .u8 (i : Int), .int .u8 eb, .string ev] 31 (0, 0)) := by rw [hW1, Below.heap_alloc _ _ _ (by simp)]; exact heap_alloc_new _ _
      have q1 : W1.heap[wr.heap.size + 1]? = some (.cells #[.int .i64 (f + i), .int .i64 eb, .string ev] 27 (0, 0)) := by
        rw [hW1]; have := heap_alloc_new (wr.alloc (.cells #[.int .u8 (i : Int), .int .u8 eb, .string ev] 31)) (.cells #[.int .i64 (f + i), .int .i64 eb, .string ev] 27); simpa using this
      obtain ⟨d0, _, _, _⟩ := tri_cells ((hgrow2.block wr.heap.size (by omega) (by simp; omega)).trans q0)
      obtain ⟨g0, g1, g2, _⟩ := tri_cells ((hgrow2.block (wr.heap.size + 1) (by omega) (by simp; omega)).trans q1)
      have HP : Hid (∀ W3 W4, W3 = w2.setCell ⟨w.heap.size, i, none⟩ (.bool true) → W4 = set3 W3 (w.heap.size + 1) (i * 3) ⟨f + i, eb, ev⟩ → StC w W4 f (upd F i ⟨f + i, eb, ev⟩) (k + 1)) := fun W3 W4 h3 h4 =>
        HS.out.put rfl rfl rfl hN r0 rfl hMI hown2 hgrow2 h3 h4
      have k0 : w2.heap[w.heap.size]? = wr.heap[w.heap.size]? := (hgrow2.block _ (by omega) (by simp)).trans (hN.block _ (by omega))
      have k1 : w2.heap[w.heap.size + 1]? = wr.heap[w.heap.size + 1]? := (hgrow2.block _ (by omega) (by simp)).trans (hN.block _ (by omega))
      have v1 := (World.cell?_of_block k0).trans (HS.out.hv i r0).1
      have v2 := (World.frozen?_of_block k0).trans (HS.out.hv i r0).2
      obtain ⟨⟨m1, m2, m3⟩, z1, z2, z3⟩ := (HS.out.en i r0).same k1
      generalize hp : wr.heap.size = p at d0 g0 g1 g2 hbig ⊢
      have e1 : ¬ (w.heap.size = p) := by omega
      have e2 : ¬ (w.heap.size + 1 = p) := by omega
      have e3 : ¬ (w.heap.size = p + 1) := by omega
      have e4 : ¬ (w.heap.size = p) := by omega
      have e5 : ¬ (p = w.heap.size) := by omega
      have e6 : ¬ (p = w.heap.size + 1) := by omega
      have e7 : ¬ (p + 1 = w.heap.size) := by omega
      have e8 : ¬ (p + 1 = w.heap.size + 1) := by omega
      clear hW1 hN hs1 q0 q1 k0 k1 hown2 hgrow2 hmap hMI HS hp c0' c1' c2'
      by_cases hmx : mx < eb
      · go_wp2
        go_roundw
        case rel => exact ⟨k + 1, _, eb, by omega, by go_num, rfl, by omega, r2, HP.out _ _ rfl rfl⟩
        case measure => simp [intOf]; omega
      · have hmx' : ¬ (eb > mx) := hmx
        go_wp2
        go_roundw
        case rel => exact ⟨k + 1, _, mx, by omega, by go_num, rfl, hx1, hx2, HP.out _ _ rfl rfl⟩
        case measure => simp [intOf]; omega
    · obtain rfl : k = len := by omega
      have hge : ¬ ((k : Int) < (k : Int)) := by omega
      clear hlt hk HCE HEL HOK hz25 hz28 hmm
      go_wp2_with fail
      go_loopw [22, 23] (fun s22 s23 wi => ∃ (j : Nat), j ≤ 256 ∧ s22 = .int .i64 (cntF F j : Nat) ∧ s23 = .int .i64 j ∧ wi = wr) (fun _ i _ => 256 - (intOf i).toNat)
      case atStart => exact ⟨0, by omega, rfl, rfl, rfl⟩
      case round =>
        obtain ⟨j, hj, rfl, rfl, hwi⟩ := hrel
        have hwi' := hwi.symm
        clear hwi
        subst hwi'
        by_cases hjl : j < 256
        · have v1 := (HS.out.hv j hjl).1
          have HD : Hid (cntF F (j + 1) = cntF F j + if (F j).isSome then 1 else 0) := (rfl : cntF F (j + 1) = _)
          have hcl := cntF_le F j
          have i1 : (0 : Int) ≤ (j : Int) := by omega
          have i2 : (j : Int) < 256 := by omega
          generalize cntF F j = cj at HD hcl ⊢
          cases hsm : (F j).isSome
          · rw [hsm] at v1 HD
            have HD2 : Hid (cntF F (j + 1) = cj) := by show cntF F (j + 1) = cj; rw [HD.out]; rfl
            clear hsm HD
            go_wp2
            go_roundw
            case rel => exact ⟨j + 1, by omega, by rw [HD2.out], by go_num, by trivial⟩
            case measure => simp [intOf]; omega
          · rw [hsm] at v1 HD
            have HD2 : Hid (cntF F (j + 1) = cj + 1) := by show cntF F (j + 1) = cj + 1; rw [HD.out]; rfl
            clear hsm HD
            go_wp2
            go_roundw
            case rel => exact ⟨j + 1, by omega, by rw [HD2.out]; go_num, by go_num, by trivial⟩
            case measure => simp [intOf]; omega
        · obtain rfl : j = 256 := by omega
          have hjn : ¬ ((256 : Int) < 256) := by omega
          have hcl := cntF_le F 256
          obtain ⟨he1, he2⟩ := he0
          obtain ⟨hr1, hr2⟩ := hr0
          obtain ⟨hb1, hb2⟩ := hb0
          obtain ⟨hm1, hm2⟩ := hm0
          obtain ⟨md, hmd⟩ : ∃ md, md = mode % 3 := ⟨_, rfl⟩
          have hmde := hmd.symm
          have hmd0 : 0 ≤ md := by omega
          have hmd1 : md ≤ 2 := by omega
          clear hmd
          generalize hcc : cntF F 256 = cc at hcl ⊢
          have HCC : Hid (cntF F 256 = cc) := hcc
          clear hcc
          have hcs : md = 0 ∨ md = 1 ∨ md = 2 := by omega
          rcases hcs with h0 | h0 | h0
          · subst h0
            by_cases hfq : f ≤ fromRaw % 300 - 8
            · have HNO : Hid True := trivial
              go_wp2_with fail
              generalize hqq : fromRaw % 300 - 8 = q at hfq ⊢
              generalize hmv : mx + extra % 4 = mb at hfq ⊢
              obtain ⟨b, hbe⟩ : ∃ b, b = mb + 1 + extra / 4 := ⟨_, rfl⟩
              rw [← hbe]
              have hbm : mb < b := by omega
              have hmb1 : -1 ≤ mb := by omega
              have hq2 : q ≤ 1000 := by omega
              obtain ⟨W1, hW1⟩ : ∃ W1, W1 = wr.alloc (.cells #[.int .i64 mb, .map (some (w.heap.size + 1 + 1)), .int .i64 f] 34) := ⟨_, rfl⟩
              have hN1 : Below wr.heap.size wr W1 := by rw [hW1]; exact (Below.refl _ _).alloc (Nat.le_refl _) _
              have HS1 : Hid (StC w W1 f F k) := HS.out.later hN1
              have hA1 : W1.heap[wr.heap.size]? = some (.cells (accC mb (w.heap.size + 2) f) 34 (0, 0)) := by rw [hW1]; exact heap_alloc_new _ _
              have hab : w.heap.size + 2 < wr.heap.size := HS.out.big
              obtain ⟨D, hm1, hD1⟩ := HS1.out.mp
              have CP : Hid (Calls Ybaf.prog 4 #[.pointer (some ⟨wr.heap.size, 0, none⟩), .int .i64 b, .int .i64 q] W1 (OkPost wr.heap.size (w.heap.size + 2) b f (resL F f q 256) W1)) := promise_ok HSO.out wr.heap.size (w.heap.size + 2) k mb f q b F D W1 (by omega) hfl hfq hq2 hmb1 hbm hA1 hm1 hD1
              rw [← hW1]
              generalize wr.heap.size = ab at CP hab ⊢
              clear hW1 hN1 hA1 hm1 hD1 HS HSO HF hqq hmv hbe
              refine Calls.mono CP.out ?_
              rintro e W2 ⟨v2, base2, rfl, ho2, ha2, hg2⟩
              have HS2 : Hid (StC w W2 f F k) := HS1.out.kept hg2 hab
              have HA2 : Hid (W2.heap[ab]? = some (.cells (accC b (w.heap.size + 2) f) 34 (0, 0))) := ha2
              obtain ⟨aR, cR, gR, rfl, hlc, hag, hrow⟩ := own_sv ho2
              have HROW : Hid (∀ (j : Nat) (s : SV), (resL F f q 256)[j]? = some s → W2.cell? ⟨gR, j * 3, none⟩ = some (.int .i64 s.slot) ∧ W2.cell? ⟨gR, j * 3 + 1, none⟩ = some (.int .i64 s.bal) ∧ W2.cell? ⟨gR, j * 3 + 2, none⟩ = some (.string s.val)) := hrow
              have HAG : Hid (0 < (resL F f q 256).length → aR = some ⟨gR, 0, none⟩) := hag
              have hRl := resL_le F f q 256
              obtain ⟨y0, y1, y2, _⟩ := acc_cells ha2
              have hlen := HS2.out.len
              rw [HCC.out] at hlen
              clear CP ho2 ha2 hg2 hag hrow HS1
              generalize hRn : (resL F f q 256).length = nR at hRl hlc HAG ⊢
              have HRN : Hid ((resL F f q 256).length = nR) := hRn
              clear hRn
              go_wp2_with fail
              go_loopw [31] (fun s31 wi => ∃ (j : Nat), j ≤ 256 ∧ s31 = .int .i64 j ∧ Hid (Below W2.heap.size W2 wi)) (fun i _ => 256 - (intOf i).toNat)
              case atStart => exact ⟨0, by omega, rfl, Below.refl _ _⟩
              case round =>
                obtain ⟨j, hj, rfl, HBW⟩ := hrel
                by_cases hjl : j < 256
                · have HS3 : Hid (StC w wr f F k) := HS2.out.later HBW.out
                  have v1 := (HS3.out.hv j hjl).1
                  have i1 : (0 : Int) ≤ (j : Int) := by omega
                  have i2 : (j : Int) < 256 := by omega
                  cases hFj : F j with
                  | none =>
                    rw [hFj] at v1
                    simp only [Option.isSome_none] at v1
                    clear HS3 hFj
                    go_wp2
                    go_roundw
                    case rel => exact ⟨j + 1, by omega, by go_num, HBW⟩
                    case measure => simp [intOf]; omega
                  | some s =>
                    have hlk := HS3.out.look hfl hfu hjl hFj
                    rw [hFj] at v1
                    simp only [Option.isSome_some] at v1
                    have x1 := (HBW.out.cell (p := ⟨ab, 1, none⟩) (by have := (Array.getElem?_eq_some_iff.1 HA2.out).1; omega)).trans y1
                    have hns := neq_sv s
                    obtain ⟨ss, sb, sv⟩ := s
                    simp only [SV.cells] at hlk hns
                    have HFJ : Hid (F j = some ⟨ss, sb, sv⟩) := hFj
                    clear HS3 hFj
                    go_wp2_with fail
                    obtain ⟨W4, hW4⟩ : ∃ W4, W4 = wr.alloc (.cells #[.int .i64 ss, .int .i64 sb, .string sv] 27) := ⟨_, rfl⟩
                    have HB4 : Hid (Below W2.heap.size W2 W4) := by rw [hW4]; exact HBW.out.alloc HBW.out.size _
                    have N4 : W4.heap[wr.heap.size]? = some (.cells #[.int .i64 ss, .int .i64 sb, .string sv] 27 (0, 0)) := by rw [hW4]; exact heap_alloc_new _ _
                    obtain ⟨t0, t1, t2, _⟩ := tri_cells N4
                    obtain ⟨⟨m1, m2, m3⟩, _⟩ := (HS2.out.later HB4.out).en j hjl
                    rw [HFJ.out] at m1 m2 m3
                    simp only [Option.getD_some] at m1 m2 m3
                    rw [← hW4]
                    clear hW4 N4 hlk v1 x1 HBW HFJ
                    generalize wr.heap.size = pw at t0 t1 t2 ⊢
                    go_quiet (fail)
                    go_wp2
                    go_roundw
                    case rel => exact ⟨j + 1, by omega, by go_num, below_drewN HB4.out _⟩
                    case measure => simp [intOf]; omega
                · obtain rfl : j = 256 := by omega
                  have hjm : ¬ ((256 : Int) < 256) := by omega
                  have x0 := (HBW.out.cell (p := ⟨ab, 0, none⟩) (by have := (Array.getElem?_eq_some_iff.1 HA2.out).1; omega)).trans y0
                  go_wp2_with fail
                  go_loopw [34, 35] (fun s34 s35 wi => ∃ (i : Nat), i ≤ 256 ∧ s34 = .int .i64 ((resL F f q i).length : Nat) ∧ s35 = .int .i64 i ∧ Hid (Below W2.heap.size W2 wi)) (fun _ i _ => 256 - (intOf i).toNat)
                  case atStart => exact ⟨0, by omega, rfl, rfl, HBW⟩
                  case round =>
                    clear HBW x0
                    obtain ⟨i, hi, rfl, rfl, HBW⟩ := hrel
                    by_cases hil : i < 256
                    · have HS3 : Hid (StC w wr f F k) := HS2.out.later HBW.out
                      have v1 := (HS3.out.hv i hil).1
                      have i1 : (0 : Int) ≤ (i : Int) := by omega
                      have i2 : (i : Int) < 256 := by omega
                      cases hFi : F i with
                      | none =>
                        rw [hFi] at v1
                        simp only [Option.isSome_none] at v1
                        have HM : Hid ((resL F f q (i + 1)).length = (resL F f q i).length) := resL_miss (.inr hFi)
                        clear HS3 hFi
                        generalize (resL F f q i).length = kk at HM ⊢
                        go_wp2
                        go_roundw
                        case rel => exact ⟨i + 1, by omega, by rw [HM.out], by go_num, HBW⟩
                        case measure => simp [intOf]; omega
                      | some s =>
                        by_cases hqi : q ≤ f + (i : Int)
                        · obtain ⟨hg, hn⟩ := resL_hit hil hqi hFi
                          have HM : Hid ((resL F f q (i + 1)).length = (resL F f q i).length + 1) := hn
                          obtain ⟨c0, c1, c2⟩ := HROW.out _ _ hg
                          have hkn : (resL F f q i).length < (resL F f q 256).length := (List.getElem?_eq_some_iff.1 hg).1
                          rw [HRN.out] at hkn
                          rw [hFi] at v1
                          simp only [Option.isSome_some] at v1
                          obtain ⟨⟨m1, m2, m3⟩, _⟩ := HS3.out.en i hil
                          rw [hFi] at m1 m2 m3
                          simp only [Option.getD_some] at m1 m2 m3
                          have hgR : gR < W2.heap.size := World.block_lt_of_cell? _ _ c0
                          have c0' := (HBW.out.cell (p := ⟨gR, (resL F f q i).length * 3, none⟩) hgR).trans c0
                          have c1' := (HBW.out.cell (p := ⟨gR, (resL F f q i).length * 3 + 1, none⟩) hgR).trans c1
                          have c2' := (HBW.out.cell (p := ⟨gR, (resL F f q i).length * 3 + 2, none⟩) hgR).trans c2
                          have hns := neq_sv s
                          obtain ⟨ss, sb, sv⟩ := s
                          simp only [SV.cells] at hns
                          simp only at c0' c1' c2' m1 m2 m3
                          have ha := HAG.out (by omega)
                          subst ha
                          clear HS3 hFi hg hn c0 c1 c2
                          generalize (resL F f q i).length = kk at HM hkn c0' c1' c2' ⊢
                          have hkn' : (kk : Int) < (nR : Int) := by omega
                          have hk0 : (0 : Int) ≤ (kk : Int) := by omega
                          have hnl : ¬ ((nR : Int) ≤ (kk : Int)) := by omega
                          go_wp2_with fail
                          go_quiet (fail)
                          go_wp2
                          go_roundw
                          case rel => exact ⟨i + 1, by omega, by rw [HM.out]; go_num, by go_num, below_drewN HBW.out _⟩
                          case measure => simp [intOf]; omega
                        · rw [hFi] at v1
                          simp only [Option.isSome_some] at v1
                          have HM : Hid ((resL F f q (i + 1)).length = (resL F f q i).length) := resL_miss (.inl hqi)
                          clear HS3 hFi
                          generalize (resL F f q i).length = kk at HM ⊢
                          go_wp2
                          go_roundw
                          case rel => exact ⟨i + 1, by omega, by rw [HM.out], by go_num, HBW⟩
                          case measure => simp [intOf]; omega
                    · obtain rfl : i = 256 := by omega
                      have hjm : ¬ ((256 : Int) < 256) := by omega
                      have HBZ : Hid (Below w.heap.size w wr) := HS2.out.below.trans (HBW.out.mono HS2.out.below.size)
                      rw [HRN.out]
                      clear HBW
                      go_wp2
                      go_ret
                      exact ⟨rfl, HBZ.out⟩
            · have HNO : Hid (∀ (q mb b : Int), q = fromRaw % 300 - 8 → b = mb + 1 + extra / 4 → ¬ (f ≤ q ∧ mb < b)) := fun q mb b h1 h2 h3 => by omega
              go_wp2_with fail
              generalize hqq : fromRaw % 300 - 8 = q at hfq ⊢
              generalize hmv : mx + extra % 4 = mb at hfq ⊢
              obtain ⟨b, hbe⟩ : ∃ b, b = mb + 1 + extra / 4 := ⟨_, rfl⟩
              rw [← hbe]
              have hmb1 : -1 ≤ mb := by omega
              have hq1 : -1000 ≤ q := by omega
              have hq2 : q ≤ 1000 := by omega
              obtain ⟨W1, hW1⟩ : ∃ W1, W1 = wr.alloc (.cells #[.int .i64 mb, .map (some (w.heap.size + 1 + 1)), .int .i64 f] 34) := ⟨_, rfl⟩
              have hN1 : Below wr.heap.size wr W1 := by rw [hW1]; exact (Below.refl _ _).alloc (Nat.le_refl _) _
              have HS1 : Hid (StC w W1 f F k) := HS.out.later hN1
              have hA1 : W1.heap[wr.heap.size]? = some (.cells (accC mb (w.heap.size + 2) f) 34 (0, 0)) := by rw [hW1]; exact heap_alloc_new _ _
              have hab : w.heap.size + 2 < wr.heap.size := HS.out.big
              have hl1 : wr.heap.size < W1.heap.size := by rw [hW1]; simp
              obtain ⟨D, hm1, hD1⟩ := HS1.out.mp
              have CP : Hid (Calls Ybaf.prog 4 #[.pointer (some ⟨wr.heap.size, 0, none⟩), .int .i64 b, .int .i64 q] W1 (NoPost W1)) := promise_no F0 wr.heap.size (w.heap.size + 2) k mb f q b D W1 (by rw [HS1.out.below.tape]; exact HF.out) hq1 hq2 (HNO.out _ _ _ hqq.symm hbe) hfl hA1 hm1
              rw [← hW1]
              generalize wr.heap.size = ab at CP hab hA1 hl1 ⊢
              clear hW1 hN1 hm1 hD1 HS HSO HF hqq hmv hbe HNO
              refine Calls.mono CP.out ?_
              rintro e W2 ⟨te, pe, rfl, hb2⟩
              have HS2 : Hid (StC w W2 f F k) := HS1.out.later hb2
              have ha2 : W2.heap[ab]? = some (.cells (accC mb (w.heap.size + 2) f) 34 (0, 0)) := (hb2.block ab hl1).trans hA1
              have HA2 : Hid (W2.heap[ab]? = some (.cells (accC mb (w.heap.size + 2) f) 34 (0, 0))) := ha2
              obtain ⟨y0, y1, y2, _⟩ := acc_cells ha2
              have hlen := HS2.out.len
              rw [HCC.out] at hlen
              have hsl := nil35
              clear CP ha2 hb2 HS1 hA1 hl1
              go_wp2_with fail
              go_loopw [31] (fun s31 wi => ∃ (j : Nat), j ≤ 256 ∧ s31 = .int .i64 j ∧ Hid (Below W2.heap.size W2 wi)) (fun i _ => 256 - (intOf i).toNat)
              case atStart => exact ⟨0, by omega, rfl, Below.refl _ _⟩
              case round =>
                obtain ⟨j, hj, rfl, HBW⟩ := hrel
                by_cases hjl : j < 256
                · have HS3 : Hid (StC w wr f F k) := HS2.out.later HBW.out
                  have v1 := (HS3.out.hv j hjl).1
                  have i1 : (0 : Int) ≤ (j : Int) := by omega
                  have i2 : (j : Int) < 256 := by omega
                  cases hFj : F j with
                  | none =>
                    rw [hFj] at v1
                    simp only [Option.isSome_none] at v1
                    clear HS3 hFj
                    go_wp2
                    go_roundw
                    case rel => exact ⟨j + 1, by omega, by go_num, HBW⟩
                    case measure => simp [intOf]; omega
                  | some s =>
                    have hlk := HS3.out.look hfl hfu hjl hFj
                    rw [hFj] at v1
                    simp only [Option.isSome_some] at v1
                    have x1 := (HBW.out.cell (p := ⟨ab, 1, none⟩) (by have := (Array.getElem?_eq_some_iff.1 HA2.out).1; omega)).trans y1
                    have hns := neq_sv s
                    obtain ⟨ss, sb, sv⟩ := s
                    simp only [SV.cells] at hlk hns
                    have HFJ : Hid (F j = some ⟨ss, sb, sv⟩) := hFj
                    clear HS3 hFj
                    go_wp2_with fail
                    obtain ⟨W4, hW4⟩ : ∃ W4, W4 = wr.alloc (.cells #[.int .i64 ss, .int .i64 sb, .string sv] 27) := ⟨_, rfl⟩
                    have HB4 : Hid (Below W2.heap.size W2 W4) := by rw [hW4]; exact HBW.out.alloc HBW.out.size _
                    have N4 : W4.heap[wr.heap.size]? = some (.cells #[.int .i64 ss, .int .i64 sb, .string sv] 27 (0, 0)) := by rw [hW4]; exact heap_alloc_new _ _
                    obtain ⟨t0, t1, t2, _⟩ := tri_cells N4
                    obtain ⟨⟨m1, m2, m3⟩, _⟩ := (HS2.out.later HB4.out).en j hjl
                    rw [HFJ.out] at m1 m2 m3
                    simp only [Option.getD_some] at m1 m2 m3
                    rw [← hW4]
                    clear hW4 N4 hlk v1 x1 HBW HFJ
                    generalize wr.heap.size = pw at t0 t1 t2 ⊢
                    go_quiet (fail)
                    go_wp2
                    go_roundw
                    case rel => exact ⟨j + 1, by omega, by go_num, below_drewN HB4.out _⟩
                    case measure => simp [intOf]; omega
                · obtain rfl : j = 256 := by omega
                  have hjm : ¬ ((256 : Int) < 256) := by omega
                  have x0 := (HBW.out.cell (p := ⟨ab, 0, none⟩) (by have := (Array.getElem?_eq_some_iff.1 HA2.out).1; omega)).trans y0
                  have HBZ : Hid (Below w.heap.size w wr) := HS2.out.below.trans (HBW.out.mono HS2.out.below.size)
                  clear HBW
                  go_wp2
                  go_ret
                  exact ⟨rfl, HBZ.out⟩
          · subst h0
            have HNO : Hid (∀ (q mb b : Int), q = fromRaw % 300 - 8 → b = mb - extra % 3 → ¬ (f ≤ q ∧ mb < b)) := fun q mb b h1 h2 h3 => by omega
            by_cases hfq : f ≤ fromRaw % 300 - 8
            · have hbm0 : ¬ (mx + extra % 4 < mx + extra % 4 - extra % 3) := by omega
              go_wp2_with fail
              generalize hqq : fromRaw % 300 - 8 = q at hfq ⊢
              generalize hmv : mx + extra % 4 = mb at hfq ⊢
              obtain ⟨b, hbe⟩ : ∃ b, b = mb - extra % 3 := ⟨_, rfl⟩
              rw [← hbe]
              have hmb1 : -1 ≤ mb := by omega
              have hq1 : -1000 ≤ q := by omega
              have hq2 : q ≤ 1000 := by omega
              obtain ⟨W1, hW1⟩ : ∃ W1, W1 = wr.alloc (.cells #[.int .i64 mb, .map (some (w.heap.size + 1 + 1)), .int .i64 f] 34) := ⟨_, rfl⟩
              have hN1 : Below wr.heap.size wr W1 := by rw [hW1]; exact (Below.refl _ _).alloc (Nat.le_refl _) _
              have HS1 : Hid (StC w W1 f F k) := HS.out.later hN1
              have hA1 : W1.heap[wr.heap.size]? = some (.cells (accC mb (w.heap.size + 2) f) 34 (0, 0)) := by rw [hW1]; exact heap_alloc_new _ _
              have hab : w.heap.size + 2 < wr.heap.size := HS.out.big
              have hl1 : wr.heap.size < W1.heap.size := by rw [hW1]; simp
              obtain ⟨D, hm1, hD1⟩ := HS1.out.mp
              have CP : Hid (Calls Ybaf.prog 4 #[.pointer (some ⟨wr.heap.size, 0, none⟩), .int .i64 b, .int .i64 q] W1 (NoPost W1)) := promise_no F0 wr.heap.size (w.heap.size + 2) k mb f q b D W1 (by rw [HS1.out.below.tape]; exact HF.out) hq1 hq2 (HNO.out _ _ _ hqq.symm hbe) hfl hA1 hm1
              rw [← hW1]
              generalize wr.heap.size = ab at CP hab hA1 hl1 ⊢
              clear hW1 hN1 hm1 hD1 HS HSO HF hqq hmv hbe HNO
              refine Calls.mono CP.out ?_
              rintro e W2 ⟨te, pe, rfl, hb2⟩
              have HS2 : Hid (StC w W2 f F k) := HS1.out.later hb2
              have ha2 : W2.heap[ab]? = some (.cells (accC mb (w.heap.size + 2) f) 34 (0, 0)) := (hb2.block ab hl1).trans hA1
              have HA2 : Hid (W2.heap[ab]? = some (.cells (accC mb (w.heap.size + 2) f) 34 (0, 0))) := ha2
              obtain ⟨y0, y1, y2, _⟩ := acc_cells ha2
              have hlen := HS2.out.len
              rw [HCC.out] at hlen
              have hsl := nil35
              clear CP ha2 hb2 HS1 hA1 hl1
              go_wp2_with fail
              go_loopw [31] (fun s31 wi => ∃ (j : Nat), j ≤ 256 ∧ s31 = .int .i64 j ∧ Hid (Below W2.heap.size W2 wi)) (fun i _ => 256 - (intOf i).toNat)
              case atStart => exact ⟨0, by omega, rfl, Below.refl _ _⟩
              case round =>
                obtain ⟨j, hj, rfl, HBW⟩ := hrel
                by_cases hjl : j < 256
                · have HS3 : Hid (StC w wr f F k) := HS2.out.later HBW.out
                  have v1 := (HS3.out.hv j hjl).1
                  have i1 : (0 : Int) ≤ (j : Int) := by omega
                  have i2 : (j : Int) < 256 := by omega
                  cases hFj : F j with
                  | none =>
                    rw [hFj] at v1
                    simp only [Option.isSome_none] at v1
                    clear HS3 hFj
                    go_wp2
                    go_roundw
                    case rel => exact ⟨j + 1, by omega, by go_num, HBW⟩
                    case measure => simp [intOf]; omega
                  | some s =>
                    have hlk := HS3.out.look hfl hfu hjl hFj
                    rw [hFj] at v1
                    simp only [Option.isSome_some] at v1
                    have x1 := (HBW.out.cell (p := ⟨ab, 1, none⟩) (by have := (Array.getElem?_eq_some_iff.1 HA2.out).1; omega)).trans y1
                    have hns := neq_sv s
                    obtain ⟨ss, sb, sv⟩ := s
                    simp only [SV.cells] at hlk hns
                    have HFJ : Hid (F j = some ⟨ss, sb, sv⟩) := hFj
                    clear HS3 hFj
                    go_wp2_with fail
                    obtain ⟨W4, hW4⟩ : ∃ W4, W4 = wr.alloc (.cells #[.int .i64 ss, .int .i64 sb, .string sv] 27) := ⟨_, rfl⟩
                    have HB4 : Hid (Below W2.heap.size W2 W4) := by rw [hW4]; exact HBW.out.alloc HBW.out.size _
                    have N4 : W4.heap[wr.heap.size]? = some (.cells #[.int .i64 ss, .int .i64 sb, .string sv] 27 (0, 0)) := by rw [hW4]; exact heap_alloc_new _ _
                    obtain ⟨t0, t1, t2, _⟩ := tri_cells N4
                    obtain ⟨⟨m1, m2, m3⟩, _⟩ := (HS2.out.later HB4.out).en j hjl
                    rw [HFJ.out] at m1 m2 m3
                    simp only [Option.getD_some] at m1 m2 m3
                    rw [← hW4]
                    clear hW4 N4 hlk v1 x1 HBW HFJ
                    generalize wr.heap.size = pw at t0 t1 t2 ⊢
                    go_quiet (fail)
                    go_wp2
                    go_roundw
                    case rel => exact ⟨j + 1, by omega, by go_num, below_drewN HB4.out _⟩
                    case measure => simp [intOf]; omega
                · obtain rfl : j = 256 := by omega
                  have hjm : ¬ ((256 : Int) < 256) := by omega
                  have x0 := (HBW.out.cell (p := ⟨ab, 0, none⟩) (by have := (Array.getElem?_eq_some_iff.1 HA2.out).1; omega)).trans y0
                  have HBZ : Hid (Below w.heap.size w wr) := HS2.out.below.trans (HBW.out.mono HS2.out.below.size)
                  clear HBW
                  go_wp2
                  go_ret
                  exact ⟨rfl, HBZ.out⟩
            · skip
              go_wp2_with fail
              generalize hqq : fromRaw % 300 - 8 = q at hfq ⊢
              generalize hmv : mx + extra % 4 = mb at hfq ⊢
              obtain ⟨b, hbe⟩ : ∃ b, b = mb - extra % 3 := ⟨_, rfl⟩
              rw [← hbe]
              have hmb1 : -1 ≤ mb := by omega
              have hq1 : -1000 ≤ q := by omega
              have hq2 : q ≤ 1000 := by omega
              obtain ⟨W1, hW1⟩ : ∃ W1, W1 = wr.alloc (.cells #[.int .i64 mb, .map (some (w.heap.size + 1 + 1)), .int .i64 f] 34) := ⟨_, rfl⟩
              have hN1 : Below wr.heap.size wr W1 := by rw [hW1]; exact (Below.refl _ _).alloc (Nat.le_refl _) _
              have HS1 : Hid (StC w W1 f F k) := HS.out.later hN1
              have hA1 : W1.heap[wr.heap.size]? = some (.cells (accC mb (w.heap.size + 2) f) 34 (0, 0)) := by rw [hW1]; exact heap_alloc_new _ _
              have hab : w.heap.size + 2 < wr.heap.size := HS.out.big
              have hl1 : wr.heap.size < W1.heap.size := by rw [hW1]; simp
              obtain ⟨D, hm1, hD1⟩ := HS1.out.mp
              have CP : Hid (Calls Ybaf.prog 4 #[.pointer (some ⟨wr.heap.size, 0, none⟩), .int .i64 b, .int .i64 q] W1 (NoPost W1)) := promise_no F0 wr.heap.size (w.heap.size + 2) k mb f q b D W1 (by rw [HS1.out.below.tape]; exact HF.out) hq1 hq2 (HNO.out _ _ _ hqq.symm hbe) hfl hA1 hm1
              rw [← hW1]
              generalize wr.heap.size = ab at CP hab hA1 hl1 ⊢
              clear hW1 hN1 hm1 hD1 HS HSO HF hqq hmv hbe HNO
              refine Calls.mono CP.out ?_
              rintro e W2 ⟨te, pe, rfl, hb2⟩
              have HS2 : Hid (StC w W2 f F k) := HS1.out.later hb2
              have ha2 : W2.heap[ab]? = some (.cells (accC mb (w.heap.size + 2) f) 34 (0, 0)) := (hb2.block ab hl1).trans hA1
              have HA2 : Hid (W2.heap[ab]? = some (.cells (accC mb (w.heap.size + 2) f) 34 (0, 0))) := ha2
              obtain ⟨y0, y1, y2, _⟩ := acc_cells ha2
              have hlen := HS2.out.len
              rw [HCC.out] at hlen
              have hsl := nil35
              clear CP ha2 hb2 HS1 hA1 hl1
              go_wp2_with fail
              go_loopw [31] (fun s31 wi => ∃ (j : Nat), j ≤ 256 ∧ s31 = .int .i64 j ∧ Hid (Below W2.heap.size W2 wi)) (fun i _ => 256 - (intOf i).toNat)
              case atStart => exact ⟨0, by omega, rfl, Below.refl _ _⟩
              case round =>
                obtain ⟨j, hj, rfl, HBW⟩ := hrel
                by_cases hjl : j < 256
                · have HS3 : Hid (StC w wr f F k) := HS2.out.later HBW.out
                  have v1 := (HS3.out.hv j hjl).1
                  have i1 : (0 : Int) ≤ (j : Int) := by omega
                  have i2 : (j : Int) < 256 := by omega
                  cases hFj : F j with
                  | none =>
                    rw [hFj] at v1
                    simp only [Option.isSome_none] at v1
                    clear HS3 hFj
                    go_wp2
                    go_roundw
                    case rel => exact ⟨j + 1, by omega, by go_num, HBW⟩
                    case measure => simp [intOf]; omega
                  | some s =>
                    have hlk := HS3.out.look hfl hfu hjl hFj
                    rw [hFj] at v1
                    simp only [Option.isSome_some] at v1
                    have x1 := (HBW.out.cell (p := ⟨ab, 1, none⟩) (by have := (Array.getElem?_eq_some_iff.1 HA2.out).1; omega)).trans y1
                    have hns := neq_sv s
                    obtain ⟨ss, sb, sv⟩ := s
                    simp only [SV.cells] at hlk hns
                    have HFJ : Hid (F j = some ⟨ss, sb, sv⟩) := hFj
                    clear HS3 hFj
                    go_wp2_with fail
                    obtain ⟨W4, hW4⟩ : ∃ W4, W4 = wr.alloc (.cells #[.int .i64 ss, .int .i64 sb, .string sv] 27) := ⟨_, rfl⟩
                    have HB4 : Hid (Below W2.heap.size W2 W4) := by rw [hW4]; exact HBW.out.alloc HBW.out.size _
                    have N4 : W4.heap[wr.heap.size]? = some (.cells #[.int .i64 ss, .int .i64 sb, .string sv] 27 (0, 0)) := by rw [hW4]; exact heap_alloc_new _ _
                    obtain ⟨t0, t1, t2, _⟩ := tri_cells N4
                    obtain ⟨⟨m1, m2, m3⟩, _⟩ := (HS2.out.later HB4.out).en j hjl
                    rw [HFJ.out] at m1 m2 m3
                    simp only [Option.getD_some] at m1 m2 m3
                    rw [← hW4]
                    clear hW4 N4 hlk v1 x1 HBW HFJ
                    generalize wr.heap.size = pw at t0 t1 t2 ⊢
                    go_quiet (fail)
                    go_wp2
                    go_roundw
                    case rel => exact ⟨j + 1, by omega, by go_num, below_drewN HB4.out _⟩
                    case measure => simp [intOf]; omega
                · obtain rfl : j = 256 := by omega
                  have hjm : ¬ ((256 : Int) < 256) := by omega
                  have x0 := (HBW.out.cell (p := ⟨ab, 0, none⟩) (by have := (Array.getElem?_eq_some_iff.1 HA2.out).1; omega)).trans y0
                  have HBZ : Hid (Below w.heap.size w wr) := HS2.out.below.trans (HBW.out.mono HS2.out.below.size)
                  clear HBW
                  go_wp2
                  go_ret
                  exact ⟨rfl, HBZ.out⟩
          · subst h0
            by_cases hfq : f ≤ fromRaw % 300 - 8
            · by_cases hbm0 : mx + extra % 4 < bRaw
              · have HNO : Hid True := trivial
                go_wp2_with fail
                generalize hqq : fromRaw % 300 - 8 = q at hfq ⊢
                generalize hmv : mx + extra % 4 = mb at hfq ⊢
                obtain ⟨b, hbe⟩ : ∃ b, b = bRaw := ⟨_, rfl⟩
                rw [← hbe]
                have hbm : mb < b := by omega
                have hmb1 : -1 ≤ mb := by omega
                have hq2 : q ≤ 1000 := by omega
                obtain ⟨W1, hW1⟩ : ∃ W1, W1 = wr.alloc (.cells #[.int .i64 mb, .map (some (w.heap.size + 1 + 1)), .int .i64 f] 34) := ⟨_, rfl⟩
                have hN1 : Below wr.heap.size wr W1 := by rw [hW1]; exact (Below.refl _ _).alloc (Nat.le_refl _) _
                have HS1 : Hid (StC w W1 f F k) := HS.out.later hN1
                have hA1 : W1.heap[wr.heap.size]? = some (.cells (accC mb (w.heap.size + 2) f) 34 (0, 0)) := by rw [hW1]; exact heap_alloc_new _ _
                have hab : w.heap.size + 2 < wr.heap.size := HS.out.big
                obtain ⟨D, hm1, hD1⟩ := HS1.out.mp
                have CP : Hid (Calls Ybaf.prog 4 #[.pointer (some ⟨wr.heap.size, 0, none⟩), .int .i64 b, .int .i64 q] W1 (OkPost wr.heap.size (w.heap.size + 2) b f (resL F f q 256) W1)) := promise_ok HSO.out wr.heap.size (w.heap.size + 2) k mb f q b F D W1 (by omega) hfl hfq hq2 hmb1 hbm hA1 hm1 hD1
                rw [← hW1]
                generalize wr.heap.size = ab at CP hab ⊢
                clear hW1 hN1 hA1 hm1 hD1 HS HSO HF hqq hmv hbe
                refine Calls.mono CP.out ?_
                rintro e W2 ⟨v2, base2, rfl, ho2, ha2, hg2⟩
                have HS2 : Hid (StC w W2 f F k) := HS1.out.kept hg2 hab
                have HA2 : Hid (W2.heap[ab]? = some (.cells (accC b (w.heap.size + 2) f) 34 (0, 0))) := ha2
                obtain ⟨aR, cR, gR, rfl, hlc, hag, hrow⟩ := own_sv ho2
                have HROW : Hid (∀ (j : Nat) (s : SV), (resL F f q 256)[j]? = some s → W2.cell? ⟨gR, j * 3, none⟩ = some (.int .i64 s.slot) ∧ W2.cell? ⟨gR, j * 3 + 1, none⟩ = some (.int .i64 s.bal) ∧ W2.cell? ⟨gR, j * 3 + 2, none⟩ = some (.string s.val)) := hrow
                have HAG : Hid (0 < (resL F f q 256).length → aR = some ⟨gR, 0, none⟩) := hag
                have hRl := resL_le F f q 256
                obtain ⟨y0, y1, y2, _⟩ := acc_cells ha2
                have hlen := HS2.out.len
                rw [HCC.out] at hlen
                clear CP ho2 ha2 hg2 hag hrow HS1
                generalize hRn : (resL F f q 256).length = nR at hRl hlc HAG ⊢
                have HRN : Hid ((resL F f q 256).length = nR) := hRn
                clear hRn
                go_wp2_with fail
                go_loopw [31] (fun s31 wi => ∃ (j : Nat), j ≤ 256 ∧ s31 = .int .i64 j ∧ Hid (Below W2.heap.size W2 wi)) (fun i _ => 256 - (intOf i).toNat)
                case atStart => exact ⟨0, by omega, rfl, Below.refl _ _⟩
                case round =>
                  obtain ⟨j, hj, rfl, HBW⟩ := hrel
                  by_cases hjl : j < 256
                  · have HS3 : Hid (StC w wr f F k) := HS2.out.later HBW.out
                    have v1 := (HS3.out.hv j hjl).1
                    have i1 : (0 : Int) ≤ (j : Int) := by omega
                    have i2 : (j : Int) < 256 := by omega
                    cases hFj : F j with
                    | none =>
                      rw [hFj] at v1
                      simp only [Option.isSome_none] at v1
                      clear HS3 hFj
                      go_wp2
                      go_roundw
                      case rel => exact ⟨j + 1, by omega, by go_num, HBW⟩
                      case measure => simp [intOf]; omega
                    | some s =>
                      have hlk := HS3.out.look hfl hfu hjl hFj
                      rw [hFj] at v1
                      simp only [Option.isSome_some] at v1
                      have x1 := (HBW.out.cell (p := ⟨ab, 1, none⟩) (by have := (Array.getElem?_eq_some_iff.1 HA2.out).1; omega)).trans y1
                      have hns := neq_sv s
                      obtain ⟨ss, sb, sv⟩ := s
                      simp only [SV.cells] at hlk hns
                      have HFJ : Hid (F j = some ⟨ss, sb, sv⟩) := hFj
                      clear HS3 hFj
                      go_wp2_with fail
                      obtain ⟨W4, hW4⟩ : ∃ W4, W4 = wr.alloc (.cells #[.int .i64 ss, .int .i64 sb, .string sv] 27) := ⟨_, rfl⟩
                      have HB4 : Hid (Below W2.heap.size W2 W4) := by rw [hW4]; exact HBW.out.alloc HBW.out.size _
                      have N4 : W4.heap[wr.heap.size]? = some (.cells #[.int .i64 ss, .int .i64 sb, .string sv] 27 (0, 0)) := by rw [hW4]; exact heap_alloc_new _ _
                      obtain ⟨t0, t1, t2, _⟩ := tri_cells N4
                      obtain ⟨⟨m1, m2, m3⟩, _⟩ := (HS2.out.later HB4.out).en j hjl
                      rw [HFJ.out] at m1 m2 m3
                      simp only [Option.getD_some] at m1 m2 m3
                      rw [← hW4]
                      clear hW4 N4 hlk v1 x1 HBW HFJ
                      generalize wr.heap.size = pw at t0 t1 t2 ⊢
                      go_quiet (fail)
                      go_wp2
                      go_roundw
                      case rel => exact ⟨j + 1, by omega, by go_num, below_drewN HB4.out _⟩
                      case measure => simp [intOf]; omega
                  · obtain rfl : j = 256 := by omega
                    have hjm : ¬ ((256 : Int) < 256) := by omega
                    have x0 := (HBW.out.cell (p := ⟨ab, 0, none⟩) (by have := (Array.getElem?_eq_some_iff.1 HA2.out).1; omega)).trans y0
                    go_wp2_with fail
                    go_loopw [34, 35] (fun s34 s35 wi => ∃ (i : Nat), i ≤ 256 ∧ s34 = .int .i64 ((resL F f q i).length : Nat) ∧ s35 = .int .i64 i ∧ Hid (Below W2.heap.size W2 wi)) (fun _ i _ => 256 - (intOf i).toNat)
                    case atStart => exact ⟨0, by omega, rfl, rfl, HBW⟩
                    case round =>
                      clear HBW x0
                      obtain ⟨i, hi, rfl, rfl, HBW⟩ := hrel
                      by_cases hil : i < 256
                      · have HS3 : Hid (StC w wr f F k) := HS2.out.later HBW.out
                        have v1 := (HS3.out.hv i hil).1
                        have i1 : (0 : Int) ≤ (i : Int) := by omega
                        have i2 : (i : Int) < 256 := by omega
                        cases hFi : F i with
                        | none =>
                          rw [hFi] at v1
                          simp only [Option.isSome_none] at v1
                          have HM : Hid ((resL F f q (i + 1)).length = (resL F f q i).length) := resL_miss (.inr hFi)
                          clear HS3 hFi
                          generalize (resL F f q i).length = kk at HM ⊢
                          go_wp2
                          go_roundw
                          case rel => exact ⟨i + 1, by omega, by rw [HM.out], by go_num, HBW⟩
                          case measure => simp [intOf]; omega
                        | some s =>
                          by_cases hqi : q ≤ f + (i : Int)
                          · obtain ⟨hg, hn⟩ := resL_hit hil hqi hFi
                            have HM : Hid ((resL F f q (i + 1)).length = (resL F f q i).length + 1) := hn
                            obtain ⟨c0, c1, c2⟩ := HROW.out _ _ hg
                            have hkn : (resL F f q i).length < (resL F f q 256).length := (List.getElem?_eq_some_iff.1 hg).1
                            rw [HRN.out] at hkn
                            rw [hFi] at v1
                            simp only [Option.isSome_some] at v1
                            obtain ⟨⟨m1, m2, m3⟩, _⟩ := HS3.out.en i hil
                            rw [hFi] at m1 m2 m3
                            simp only [Option.getD_some] at m1 m2 m3
                            have hgR : gR < W2.heap.size := World.block_lt_of_cell? _ _ c0
                            have c0' := (HBW.out.cell (p := ⟨gR, (resL F f q i).length * 3, none⟩) hgR).trans c0
                            have c1' := (HBW.out.cell (p := ⟨gR, (resL F f q i).length * 3 + 1, none⟩) hgR).trans c1
                            have c2' := (HBW.out.cell (p := ⟨gR, (resL F f q i).length * 3 + 2, none⟩) hgR).trans c2
                            have hns := neq_sv s
                            obtain ⟨ss, sb, sv⟩ := s
                            simp only [SV.cells] at hns
                            simp only at c0' c1' c2' m1 m2 m3
                            have ha := HAG.out (by omega)
                            subst ha
                            clear HS3 hFi hg hn c0 c1 c2
                            generalize (resL F f q i).length = kk at HM hkn c0' c1' c2' ⊢
                            have hkn' : (kk : Int) < (nR : Int) := by omega
                            have hk0 : (0 : Int) ≤ (kk : Int) := by omega
                            have hnl : ¬ ((nR : Int) ≤ (kk : Int)) := by omega
                            go_wp2_with fail
                            go_quiet (fail)
                            go_wp2
                            go_roundw
                            case rel => exact ⟨i + 1, by omega, by rw [HM.out]; go_num, by go_num, below_drewN HBW.out _⟩
                            case measure => simp [intOf]; omega
                          · rw [hFi] at v1
                            simp only [Option.isSome_some] at v1
                            have HM : Hid ((resL F f q (i + 1)).length = (resL F f q i).length) := resL_miss (.inl hqi)
                            clear HS3 hFi
                            generalize (resL F f q i).length = kk at HM ⊢
                            go_wp2
                            go_roundw
                            case rel => exact ⟨i + 1, by omega, by rw [HM.out], by go_num, HBW⟩
                            case measure => simp [intOf]; omega
                      · obtain rfl : i = 256 := by omega
                        have hjm : ¬ ((256 : Int) < 256) := by omega
                        have HBZ : Hid (Below w.heap.size w wr) := HS2.out.below.trans (HBW.out.mono HS2.out.below.size)
                        rw [HRN.out]
                        clear HBW
                        go_wp2
                        go_ret
                        exact ⟨rfl, HBZ.out⟩
              · have HNO : Hid (∀ (q mb b : Int), mx + extra % 4 = mb → b = bRaw → ¬ (f ≤ q ∧ mb < b)) := fun q mb b h1 h2 h3 => by omega
                go_wp2_with fail
                generalize hqq : fromRaw % 300 - 8 = q at hfq ⊢
                generalize hmv : mx + extra % 4 = mb at hfq ⊢
                obtain ⟨b, hbe⟩ : ∃ b, b = bRaw := ⟨_, rfl⟩
                rw [← hbe]
                have hmb1 : -1 ≤ mb := by omega
                have hq1 : -1000 ≤ q := by omega
                have hq2 : q ≤ 1000 := by omega
                obtain ⟨W1, hW1⟩ : ∃ W1, W1 = wr.alloc (.cells #[.int .i64 mb, .map (some (w.heap.size + 1 + 1)), .int .i64 f] 34) := ⟨_, rfl⟩
                have hN1 : Below wr.heap.size wr W1 := by rw [hW1]; exact (Below.refl _ _).alloc (Nat.le_refl _) _
                have HS1 : Hid (StC w W1 f F k) := HS.out.later hN1
                have hA1 : W1.heap[wr.heap.size]? = some (.cells (accC mb (w.heap.size + 2) f) 34 (0, 0)) := by rw [hW1]; exact heap_alloc_new _ _
                have hab : w.heap.size + 2 < wr.heap.size := HS.out.big
                have hl1 : wr.heap.size < W1.heap.size := by rw [hW1]; simp
                obtain ⟨D, hm1, hD1⟩ := HS1.out.mp
                have CP : Hid (Calls Ybaf.prog 4 #[.pointer (some ⟨wr.heap.size, 0, none⟩), .int .i64 b, .int .i64 q] W1 (NoPost W1)) := promise_no F0 wr.heap.size (w.heap.size + 2) k mb f q b D W1 (by rw [HS1.out.below.tape]; exact HF.out) hq1 hq2 (HNO.out _ _ _ hmv hbe) hfl hA1 hm1
                rw [← hW1]
                generalize wr.heap.size = ab at CP hab hA1 hl1 ⊢
                clear hW1 hN1 hm1 hD1 HS HSO HF hqq hmv hbe HNO
                refine Calls.mono CP.out ?_
                rintro e W2 ⟨te, pe, rfl, hb2⟩
                have HS2 : Hid (StC w W2 f F k) := HS1.out.later hb2
                have ha2 : W2.heap[ab]? = some (.cells (accC mb (w.heap.size + 2) f) 34 (0, 0)) := (hb2.block ab hl1).trans hA1
                have HA2 : Hid (W2.heap[ab]? = some (.cells (accC mb (w.heap.size + 2) f) 34 (0, 0))) := ha2
                obtain ⟨y0, y1, y2, _⟩ := acc_cells ha2
                have hlen := HS2.out.len
                rw [HCC.out] at hlen
                have hsl := nil35
                clear CP ha2 hb2 HS1 hA1 hl1
                go_wp2_with fail
                go_loopw [31] (fun s31 wi => ∃ (j : Nat), j ≤ 256 ∧ s31 = .int .i64 j ∧ Hid (Below W2.heap.size W2 wi)) (fun i _ => 256 - (intOf i).toNat)
                case atStart => exact ⟨0, by omega, rfl, Below.refl _ _⟩
                case round =>
                  obtain ⟨j, hj, rfl, HBW⟩ := hrel
                  by_cases hjl : j < 256
                  · have HS3 : Hid (StC w wr f F k) := HS2.out.later HBW.out
                    have v1 := (HS3.out.hv j hjl).1
                    have i1 : (0 : Int) ≤ (j : Int) := by omega
                    have i2 : (j : Int) < 256 := by omega
                    cases hFj : F j with
                    | none =>
                      rw [hFj] at v1
                      simp only [Option.isSome_none] at v1
                      clear HS3 hFj
                      go_wp2
                      go_roundw
                      case rel => exact ⟨j + 1, by omega, by go_num, HBW⟩
                      case measure => simp [intOf]; omega
                    | some s =>
                      have hlk := HS3.out.look hfl hfu hjl hFj
                      rw [hFj] at v1
                      simp only [Option.isSome_some] at v1
                      have x1 := (HBW.out.cell (p := ⟨ab, 1, none⟩) (by have := (Array.getElem?_eq_some_iff.1 HA2.out).1; omega)).trans y1
                      have hns := neq_sv s
                      obtain ⟨ss, sb, sv⟩ := s
                      simp only [SV.cells] at hlk hns
                      have HFJ : Hid (F j = some ⟨ss, sb, sv⟩) := hFj
                      clear HS3 hFj
                      go_wp2_with fail
                      obtain ⟨W4, hW4⟩ : ∃ W4, W4 = wr.alloc (.cells #[.int .i64 ss, .int .i64 sb, .string sv] 27) := ⟨_, rfl⟩
                      have HB4 : Hid (Below W2.heap.size W2 W4) := by rw [hW4]; exact HBW.out.alloc HBW.out.size _
                      have N4 : W4.heap[wr.heap.size]? = some (.cells #[.int .i64 ss, .int .i64 sb, .string sv] 27 (0, 0)) := by rw [hW4]; exact heap_alloc_new _ _
                      obtain ⟨t0, t1, t2, _⟩ := tri_cells N4
                      obtain ⟨⟨m1, m2, m3⟩, _⟩ := (HS2.out.later HB4.out).en j hjl
                      rw [HFJ.out] at m1 m2 m3
                      simp only [Option.getD_some] at m1 m2 m3
                      rw [← hW4]
                      clear hW4 N4 hlk v1 x1 HBW HFJ
                      generalize wr.heap.size = pw at t0 t1 t2 ⊢
                      go_quiet (fail)
                      go_wp2
                      go_roundw
                      case rel => exact ⟨j + 1, by omega, by go_num, below_drewN HB4.out _⟩
                      case measure => simp [intOf]; omega
                  · obtain rfl : j = 256 := by omega
                    have hjm : ¬ ((256 : Int) < 256) := by omega
                    have x0 := (HBW.out.cell (p := ⟨ab, 0, none⟩) (by have := (Array.getElem?_eq_some_iff.1 HA2.out).1; omega)).trans y0
                    have HBZ : Hid (Below w.heap.size w wr) := HS2.out.below.trans (HBW.out.mono HS2.out.below.size)
                    clear HBW
                    go_wp2
                    go_ret
                    exact ⟨rfl, HBZ.out⟩
            · have HNO : Hid (∀ (q mb b : Int), q = fromRaw % 300 - 8 → b = bRaw → ¬ (f ≤ q ∧ mb < b)) := fun q mb b h1 h2 h3 => by omega
              go_wp2_with fail
              generalize hqq : fromRaw % 300 - 8 = q at hfq ⊢
              generalize hmv : mx + extra % 4 = mb at hfq ⊢
              obtain ⟨b, hbe⟩ : ∃ b, b = bRaw := ⟨_, rfl⟩
              rw [← hbe]
              have hmb1 : -1 ≤ mb := by omega
              have hq1 : -1000 ≤ q := by omega
              have hq2 : q ≤ 1000 := by omega
              obtain ⟨W1, hW1⟩ : ∃ W1, W1 = wr.alloc (.cells #[.int .i64 mb, .map (some (w.heap.size + 1 + 1)), .int .i64 f] 34) := ⟨_, rfl⟩
              have hN1 : Below wr.heap.size wr W1 := by rw [hW1]; exact (Below.refl _ _).alloc (Nat.le_refl _) _
              have HS1 : Hid (StC w W1 f F k) := HS.out.later hN1
              have hA1 : W1.heap[wr.heap.size]? = some (.cells (accC mb (w.heap.size + 2) f) 34 (0, 0)) := by rw [hW1]; exact heap_alloc_new _ _
              have hab : w.heap.size + 2 < wr.heap.size := HS.out.big
              have hl1 : wr.heap.size < W1.heap.size := by rw [hW1]; simp
              obtain ⟨D, hm1, hD1⟩ := HS1.out.mp
              have CP : Hid (Calls Ybaf.prog 4 #[.pointer (some ⟨wr.heap.size, 0, none⟩), .int .i64 b, .int .i64 q] W1 (NoPost W1)) := promise_no F0 wr.heap.size (w.heap.size + 2) k mb f q b D W1 (by rw [HS1.out.below.tape]; exact HF.out) hq1 hq2 (HNO.out _ _ _ hqq.symm hbe) hfl hA1 hm1
              rw [← hW1]
              generalize wr.heap.size = ab at CP hab hA1 hl1 ⊢
              clear hW1 hN1 hm1 hD1 HS HSO HF hqq hmv hbe HNO
              refine Calls.mono CP.out ?_
              rintro e W2 ⟨te, pe, rfl, hb2⟩
              have HS2 : Hid (StC w W2 f F k) := HS1.out.later hb2
              have ha2 : W2.heap[ab]? = some (.cells (accC mb (w.heap.size + 2) f) 34 (0, 0)) := (hb2.block ab hl1).trans hA1
              have HA2 : Hid (W2.heap[ab]? = some (.cells (accC mb (w.heap.size + 2) f) 34 (0, 0))) := ha2
              obtain ⟨y0, y1, y2, _⟩ := acc_cells ha2
              have hlen := HS2.out.len
              rw [HCC.out] at hlen
              have hsl := nil35
              clear CP ha2 hb2 HS1 hA1 hl1
              go_wp2_with fail
              go_loopw [31] (fun s31 wi => ∃ (j : Nat), j ≤ 256 ∧ s31 = .int .i64 j ∧ Hid (Below W2.heap.size W2 wi)) (fun i _ => 256 - (intOf i).toNat)
              case atStart => exact ⟨0, by omega, rfl, Below.refl _ _⟩
              case round =>
                obtain ⟨j, hj, rfl, HBW⟩ := hrel
                by_cases hjl : j < 256
                · have HS3 : Hid (StC w wr f F k) := HS2.out.later HBW.out
                  have v1 := (HS3.out.hv j hjl).1
                  have i1 : (0 : Int) ≤ (j : Int) := by omega
                  have i2 : (j : Int) < 256 := by omega
                  cases hFj : F j with
                  | none =>
                    rw [hFj] at v1
                    simp only [Option.isSome_none] at v1
                    clear HS3 hFj
                    go_wp2
                    go_roundw
                    case rel => exact ⟨j + 1, by omega, by go_num, HBW⟩
                    case measure => simp [intOf]; omega
                  | some s =>
                    have hlk := HS3.out.look hfl hfu hjl hFj
                    rw [hFj] at v1
                    simp only [Option.isSome_some] at v1
                    have x1 := (HBW.out.cell (p := ⟨ab, 1, none⟩) (by have := (Array.getElem?_eq_some_iff.1 HA2.out).1; omega)).trans y1
                    have hns := neq_sv s
                    obtain ⟨ss, sb, sv⟩ := s
                    simp only [SV.cells] at hlk hns
                    have HFJ : Hid (F j = some ⟨ss, sb, sv⟩) := hFj
                    clear HS3 hFj
                    go_wp2_with fail
                    obtain ⟨W4, hW4⟩ : ∃ W4, W4 = wr.alloc (.cells #[.int .i64 ss, .int .i64 sb, .string sv] 27) := ⟨_, rfl⟩
                    have HB4 : Hid (Below W2.heap.size W2 W4) := by rw [hW4]; exact HBW.out.alloc HBW.out.size _
                    have N4 : W4.heap[wr.heap.size]? = some (.cells #[.int .i64 ss, .int .i64 sb, .string sv] 27 (0, 0)) := by rw [hW4]; exact heap_alloc_new _ _
                    obtain ⟨t0, t1, t2, _⟩ := tri_cells N4
                    obtain ⟨⟨m1, m2, m3⟩, _⟩ := (HS2.out.later HB4.out).en j hjl
                    rw [HFJ.out] at m1 m2 m3
                    simp only [Option.getD_some] at m1 m2 m3
                    rw [← hW4]
                    clear hW4 N4 hlk v1 x1 HBW HFJ
                    generalize wr.heap.size = pw at t0 t1 t2 ⊢
                    go_quiet (fail)
                    go_wp2
                    go_roundw
                    case rel => exact ⟨j + 1, by omega, by go_num, below_drewN HB4.out _⟩
                    case measure => simp [intOf]; omega
                · obtain rfl : j = 256 := by omega
                  have hjm : ¬ ((256 : Int) < 256) := by omega
                  have x0 := (HBW.out.cell (p := ⟨ab, 0, none⟩) (by have := (Array.getElem?_eq_some_iff.1 HA2.out).1; omega)).trans y0
                  have HBZ : Hid (Below w.heap.size w wr) := HS2.out.below.trans (HBW.out.mono HS2.out.below.size)
                  clear HBW
                  go_wp2
                  go_ret
                  exact ⟨rfl, HBZ.out⟩
end Go.Proofs.YbulkbivkFmt
