/- A block of differences of 32 bits, written out (printed out of that of 64 bits). -/
import Derived.Test.YtdekingogcmboaaFk
namespace Go.Proofs.Ytdekingogcmboaa.Q
open Go.RowKit Go.Proofs.YtdekingogcmboaaW.PrintWords Go.Proofs.YtdekingogcmboaaW.PrintLast Go.Proofs.YtdekingogcmboaaW.PrintMore
set_option linter.unusedVariables false
set_option linter.unusedSimpArgs false
set_option maxHeartbeats 4000000 in
set_option maxRecDepth 100000 in
theorem fb32_calls {w : World} {lo E S W tot : Nat} {first cur : Int} {ds out : List Int} (h : En 90 w lo E S W tot first cur ds out) (hf : Fit ds) (hl : ds.length ≤ 128) (hn : ds ≠ []) (ho : out.length ≤ 200000) :
    Calls Try.prog 38 #[.pointer (some ⟨E, 0, none⟩)] w fun e w' => e = .returned (.tuple #[]) ∧ En 90 w' lo E S W tot first cur [] (out ++ block ds) ∧ Below lo w w' := by
  obtain ⟨dv, hE, hlo, hD, pre0, N0, bits0, hS, hb0, hout⟩ := h
  obtain ⟨g, cap, cells, rfl, hG⟩ := hD.open_ hn
  have e10 : w.cell? ⟨E, 10, none⟩ = some (.slice (some ⟨g, 0, none⟩) ds.length cap) := (blk_cell hE 10).trans rfl
  have e3 : w.cell? ⟨E, 3, none⟩ = some (.pointer (some ⟨W, 0, none⟩)) := (blk_cell hE 3).trans rfl
  have hn0 : 0 < ds.length := List.length_pos_iff.2 hn
  have hd0 : decide ((ds.length : Int) = 0) = false := decide_eq_false (by omega)
  have hd1 : ((ds.length : Int) == 0) = false := beq_eq_false_iff_ne.mpr (by omega)
  have HLE := Aside0.mk hl
  have HE := Aside0.mk hE
  have HG := Aside0.mk hG
  have hmn := minL_is ds hf
  have hsl := Sm.len hb0 hout
  have HZ := Aside0.mk (st_zig (minL ds) hS (by omega) hmn.1.1 hmn.1.2)
  rw [show (bits0 + 7) / 8 = bits0 / 8 by omega, hout] at HZ
  have hpl : (out ++ leb (zz (minL ds))).length ≤ 200010 := by
    have h2 := (leb_len 10 (zz (minL ds)) (by have := hmn.1; unfold zz; split <;> omega) (by omega)).2
    simp; omega
  generalize hP : out ++ leb (zz (minL ds)) = P0 at HZ hpl
  have HPL := Aside0.mk hpl
  have HP := Aside0.mk hP
  clear hpl hP
  have HF := Aside0.mk hf
  have HO := Aside0.mk ho
  have HMN := Aside0.mk hmn
  have HLO := Aside0.mk hlo
  clear hE hlo hD hS hb0 hout hG hf hl hn ho hmn hsl
  go_enter Try.func38, Try.ntmps38
  go_wp2
  go_loopg [2, 28] (ds.length + 1) (fun kq v2 v28 w' => ∃ j : Nat, v28 = .int .i64 (j : Int) ∧ v2 = .int .i64 (minL (ds.take j)) ∧ Aside0 (j + kq = ds.length + 1) ∧ Aside0 (j ≤ ds.length) ∧ w' = w)
  case atStart => exact ⟨0, rfl, rfl, ⟨by omega⟩, ⟨by omega⟩, rfl⟩
  case round =>
    obtain ⟨j, rfl, rfl, HK, HJ, rfl⟩ := hrel
    cases gk with
    | zero => exact absurd HK.out (by have := HJ.out; omega)
    | succ k1 =>
      by_cases c : j < ds.length
      · have c2 : decide ((j : Int) < (ds.length : Int)) = true := decide_eq_true (by omega)
        have q1 : (0 : Int) ≤ (j : Int) := by omega
        have q2 : (j : Int) < (ds.length : Int) := by omega
        have hcell := HG.out.cell j c
        have hts := minL_snoc (ds.take j) (ds.getD j 0)
        rw [← take_snoc ds j c] at hts
        generalize ds.getD j 0 = d at hcell hts
        have hw : IntKind.i64.wrap ((j : Int) + 1) = ((j + 1 : Nat) : Int) := by rw [IntKind.wrap_i64]; have := HLE.out; omega
        have HTS := Aside0.mk hts
        clear hts
        by_cases c3 : d < minL (ds.take j)
        · have c4 : decide (d < minL (ds.take j)) = true := decide_eq_true c3
          have H3 := Aside0.mk c3
          clear c3 c
          go_wp2
          go_roundg k1
          case measure => have := HK.out; omega
          case rel => exact ⟨j + 1, by simp, by rw [HTS.out, if_pos H3.out], ⟨by have := HK.out; omega⟩, ⟨by omega⟩, rfl⟩
        · have c4 : decide (d < minL (ds.take j)) = false := decide_eq_false c3
          have H3 := Aside0.mk c3
          clear c3 c
          go_wp2
          go_roundg k1
          case measure => have := HK.out; omega
          case rel => exact ⟨j + 1, by simp, by rw [HTS.out, if_neg (by have := H3.out; omega)], ⟨by have := HK.out; omega⟩, ⟨by omega⟩, rfl⟩
      · have c2 : decide ((j : Int) < (ds.length : Int)) = false := decide_eq_false (by omega)
        have hj : j = ds.length := by have := HJ.out; omega
        subst hj
        rw [List.take_length]
        clear c
        go_upto_region 9 with (first | (go_at_call 34; with_reducible refine HZ.out.mono ?_; rintro e w1 ⟨rfl, s1, f1⟩; have hE1 := f1.keep E 90 _ HE.out (by decide) (by decide) (by decide) (by decide); have g1 := HG.out.fr f1; have y3 : w1.cell? ⟨E, 3, none⟩ = some (.pointer (some ⟨W, 0, none⟩)) := (blk_cell hE1 3).trans rfl; have y9 : w1.cell? ⟨E, 9, none⟩ = some (.int .u64 4) := (blk_cell hE1 9).trans rfl; have HSK := Aside0.mk (st_skip (s1.drewN 1) (by have := HPL.out; omega)); have HE1 := Aside0.mk hE1; have HG1 := Aside0.mk g1; have F1 := Aside0.mk f1; clear s1 f1 hE1 g1))
        go_region_held3 (fun w' => w'.cell? ⟨E, 3, none⟩ = some (.pointer (some ⟨W, 0, none⟩)) ∧ w'.cell? ⟨E, 9, none⟩ = some (.int .u64 4)) (go_keep) (first | (go_at_call 40; go_loud (refine HSK.out.mono ?_; rintro e w2 ⟨rfl, s2, f2⟩; have hE2 := (Fr.drewN 1 f2).keep E 90 _ HE1.out (by decide) (by decide) (by decide) (by decide); have g2 := HG1.out.fr (Fr.drewN 1 f2); have y3 : w2.cell? ⟨E, 3, none⟩ = some (.pointer (some ⟨W, 0, none⟩)) := (blk_cell hE2 3).trans rfl; have y9 : w2.cell? ⟨E, 9, none⟩ = some (.int .u64 4) := (blk_cell hE2 9).trans rfl; have y8 : w2.cell? ⟨E, 8, none⟩ = some (.int .u64 32) := (blk_cell hE2 8).trans rfl; have y10 : w2.cell? ⟨E, 10, none⟩ = some (.slice (some ⟨g, 0, none⟩) ds.length cap) := (blk_cell hE2 10).trans rfl; have S2 := Aside0.mk s2; have F2 := Aside0.mk (F1.out.trans (Fr.drewN 1 f2)); have HE2 := Aside0.mk hE2; have G2 := Aside0.mk g2; clear s2 f2 hE2 g2)))
        go_wp2
        have HM2 := Aside0.mk (show Mi w2 w2 lo W S P0 (minL ds) ds 0 0 0 from ⟨by rw [wids_zero]; exact S2.out, rfl, rfl, by omega, Fr.refl _ _⟩)
        clear y3 y8 y9 y10 HSK HZ
        go_loopg [7, 8] 5 (fun kq v7 v8 w' => ∃ i N bits : Nat, v8 = .int .i64 (i : Int) ∧ v7 = .int .i64 ((ds.length - 32 * i : Nat) : Int) ∧ Aside0 (i + kq = 5) ∧ Aside0 (i ≤ 4) ∧ Aside0 (Mi w2 w' lo W S P0 (minL ds) ds i N bits))
        case atStart => exact ⟨0, 0, 0, rfl, rfl, ⟨by omega⟩, ⟨by omega⟩, HM2⟩
        case round =>
          obtain ⟨i, N, bits, rfl, rfl, HK, HI, HM⟩ := hrel
          obtain ⟨k0, rfl⟩ : ∃ k0, gk = k0 + 1 := ⟨gk - 1, by have := HK.out; have := HI.out; omega⟩
          have hE3 := HM.out.fr.keep E 90 _ HE2.out (by decide) (by decide) (by decide) (by decide)
          have g3 := G2.out.fr HM.out.fr
          have y3 : wr.cell? ⟨E, 3, none⟩ = some (.pointer (some ⟨W, 0, none⟩)) := (blk_cell hE3 3).trans rfl
          have y9 : wr.cell? ⟨E, 9, none⟩ = some (.int .u64 4) := (blk_cell hE3 9).trans rfl
          have y8 : wr.cell? ⟨E, 8, none⟩ = some (.int .u64 32) := (blk_cell hE3 8).trans rfl
          have y10 : wr.cell? ⟨E, 10, none⟩ = some (.slice (some ⟨g, 0, none⟩) ds.length cap) := (blk_cell hE3 10).trans rfl
          have HE3 := Aside0.mk hE3
          have G3 := Aside0.mk g3
          clear hE3 g3
          by_cases c : i < 4
          · have c2 : decide ((i : Int) < 4) = true := decide_eq_true (by omega)
            have HMC := Aside0.mk (min_calls (ds.length - 32 * i) wr)
            have hcl := chunk_len ds i
            have HCI := Aside0.mk c
            obtain ⟨m, hm⟩ : ∃ m, m = min 32 (ds.length - 32 * i) := ⟨_, rfl⟩
            rw [← hm] at HMC hcl
            by_cases c3 : m = 0
            · have hm0 : ds.length ≤ 32 * i := by omega
              have c4 : ((m : Int) == 0) = true := beq_iff_eq.mpr (by omega)
              have c5 : decide ((m : Int) = 0) = true := decide_eq_true (by omega)
              have HM0 := Aside0.mk hm0
              clear hcl c3 hm hm0
              have hz10 := blk_frozen HE3.out 10
              have hs0 := slice_d0 g ds.length cap
              go_wp2_with (first | (go_at_call 41; go_loud (refine HMC.out.mono ?_; rintro e w1 ⟨rfl, hw1⟩; subst w1)))
              go_end0
              have hsm := HM.out.end_ HM0.out HI.out
              rw [← HP.out, show out ++ leb (zz (minL ds)) ++ wids (minL ds) ds 4 ++ bodies (minL ds) ds 4 = out ++ block ds by simp [block]] at hsm
              obtain ⟨a1, a2⟩ := En.cut HE3.out HLO.out G3.out hsm (F2.out.trans HM.out.fr).below (by decide) (by decide) (by decide) (by decide) (by decide)
              exact ⟨rfl, a1, a2⟩
            · have c4 : ((m : Int) == 0) = false := beq_eq_false_iff_ne.mpr (by omega)
              have c5 : decide ((m : Int) = 0) = false := decide_eq_false (by omega)
              obtain ⟨s, hs⟩ : ∃ s, s = 32 * i := ⟨_, rfl⟩
              have hmul : IntKind.i64.wrap ((i : Int) * 32) = (s : Int) := by rw [IntKind.wrap_i64]; omega
              have hadd : IntKind.i64.wrap ((s : Int) + (m : Int)) = (s : Int) + (m : Int) := by rw [IntKind.wrap_i64]; omega
              have hsd := slice_ds g ds.length cap s (s + m) (by omega) (by have := G3.out.le; omega)
              rw [show s + m - s = m by omega, show ((s + m : Nat) : Int) = (s : Int) + (m : Int) by omega] at hsd
              have HSM := Aside0.mk (And.intro hm (And.intro hs (And.intro c3 hcl)))
              clear hm hs c3 hcl c
              go_wp2_with (first | (go_at_call 41; refine HMC.out.mono ?_; rintro e w1 ⟨rfl, hw1⟩; subst w1))
              go_loopg [10, 96] (m + 1) (fun kq v10 v96 w' => ∃ j : Nat, v96 = .int .i64 (j : Int) ∧ v10 = .int .i64 (maxL ((chunk ds i).take j)) ∧ Aside0 (j + kq = m + 1) ∧ Aside0 (j ≤ m) ∧ w' = wr)
              case atStart => exact ⟨0, rfl, rfl, ⟨by omega⟩, ⟨by omega⟩, rfl⟩
              case round =>
                obtain ⟨j, rfl, rfl, HK2, HJ2, rfl⟩ := hrel
                cases gk with
                | zero => exact absurd HK2.out (by have := HJ2.out; omega)
                | succ k2 =>
                  by_cases c : j < m
                  · have d1 : decide ((j : Int) < (m : Int)) = true := decide_eq_true (by omega)
                    have q1 : (0 : Int) ≤ (j : Int) := by omega
                    have q2 : (j : Int) < (m : Int) := by omega
                    have hjc : j < (chunk ds i).length := by have := HSM.out.2.2.2; omega
                    have hcell := G3.out.cell (s + j) (by have := HSM.out.1; have := HSM.out.2.1; omega)
                    have hts := maxL_snoc ((chunk ds i).take j) ((chunk ds i).getD j 0)
                    rw [← take_snoc (chunk ds i) j hjc, chunk_getD ds i j hjc, ← HSM.out.2.1] at hts
                    have hw : IntKind.i64.wrap ((j : Int) + 1) = ((j + 1 : Nat) : Int) := by rw [IntKind.wrap_i64]; have := HSM.out.1; omega
                    have hmx := max64_calls (maxL ((chunk ds i).take j)) (ds.getD (s + j) 0) wr
                    rw [← hts] at hmx
                    clear hts
                    generalize ds.getD (s + j) 0 = d at hcell hmx
                    have HMX := Aside0.mk hmx
                    clear hmx hjc c
                    go_wp2_with (first | (go_at_call 42; refine HMX.out.mono ?_; rintro e w1 ⟨rfl, hw1⟩; subst w1))
                    go_roundg k2
                    case measure => have := HK2.out; omega
                    case rel => exact ⟨j + 1, by simp, rfl, ⟨by have := HK2.out; omega⟩, ⟨by omega⟩, rfl⟩
                  · have d1 : decide ((j : Int) < (m : Int)) = false := decide_eq_false (by omega)
                    have hj : j = m := by have := HJ2.out; omega
                    subst hj
                    have htk : (chunk ds i).take j = chunk ds i := by rw [← HSM.out.2.2.2, List.take_length]
                    rw [htk]
                    clear c htk HK2 HJ2
                    have hcn : chunk ds i ≠ [] := fun e => by have := HSM.out.2.2.1; have h2 := HSM.out.2.2.2; rw [e] at h2; simp at h2; omega
                    have hcf := chunk_fit HF.out i
                    have hcm : ∀ d ∈ chunk ds i, minL ds ≤ d := fun d hd => HMN.out.2.1 d (List.mem_of_mem_drop (List.mem_of_mem_take hd))
                    obtain ⟨hv1, hv2⟩ := chunk_vals hcf hcm HMN.out.1.1
                    have hmx := maxL_is (chunk ds i) hcf
                    have hwd : wid (minL ds) (chunk ds i) = Lib.bitLen (maxL (chunk ds i) - minL ds).toNat := by unfold wid; rw [if_neg hcn]
                    have hge : minL ds ≤ maxL (chunk ds i) := hcm _ (hmx.2.2 hcn)
                    have hmb := hmx.1
                    have hnb := HMN.out.1
                    generalize maxL (chunk ds i) = M at hwd hge hmb ⊢
                    obtain ⟨x, hx⟩ : ∃ x : Nat, x = (M - minL ds).toNat := ⟨_, rfl⟩
                    rw [← hx] at hwd
                    have hcv : IntKind.u64.wrap (wrap64 (M - minL ds)) = (x : Int) := by
                      unfold wrap64; simp [IntKind.wrap, IntKind.bits, IntKind.signed]; omega
                    have hcv2 : IntKind.u64.wrap (IntKind.i64.wrap (M - minL ds)) = (x : Int) := by
                      rw [IntKind.wrap_i64]; simp [IntKind.wrap, IntKind.bits, IntKind.signed]; omega
                    have hln := len64_calls (x : Int) wr (by omega) (by omega)
                    rw [Int.toNat_natCast, ← hwd] at hln
                    have HVV := Aside0.mk hv1
                    have HWM := Aside0.mk (fun w' => HM.out.next (w' := w') hv2)
                    have hrow : Row (wr.alloc (.cells #[.int .u8 ((wid (minL ds) (chunk ds i) : Nat) : Int)] 5)) wr.heap.size [((wid (minL ds) (chunk ds i) : Nat) : Int)] := blk_new wr _
                    have hwl := wids_len (minL ds) ds i
                    have hat := st_at wr.heap.size (P0.length + i) ((wid (minL ds) (chunk ds i) : Nat) : Int) (HM.out.st.alloc (.cells #[.int .u8 ((wid (minL ds) (chunk ds i) : Nat) : Int)] 5)) (by have := HCI.out; simp; omega) (by have h1 := HM.out.le; have h2 := HPL.out; have := HCI.out; simp; omega) hrow
                    have hset : (P0 ++ wids (minL ds) ds i).set (P0.length + i) ((wid (minL ds) (chunk ds i) : Nat) : Int) = P0 ++ wids (minL ds) ds (i + 1) := by
                      rw [wids_succ _ _ _ HCI.out, List.set_append_right _ _ (by omega)]
                      congr 2
                      omega
                    rw [hset, show ((P0.length + i : Nat) : Int) = (P0.length : Int) + (i : Int) by omega] at hat
                    have hfa : Fr lo wr (wr.alloc (.cells #[.int .u8 ((wid (minL ds) (chunk ds i) : Nat) : Int)] 5)) := Fr.alloc HM.out.st.lolt _
                    have hvl : ∀ j, j < (chunk ds i).length → (vals (minL ds) (chunk ds i)).getD j 0 = (ds.getD (s + j) 0 - minL ds).toNat ∧ minL ds ≤ ds.getD (s + j) 0 ∧ ds.getD (s + j) 0 ≤ 9223372036854775807 := fun j hj => by
                      have hg := chunk_getD ds i j hj
                      rw [← HSM.out.2.1] at hg
                      rw [← hg]
                      have hmem := getD_mem (ds := chunk ds i) j hj
                      refine ⟨?_, hcm _ hmem, (hcf _ hmem).2⟩
                      simp [vals, List.getD_eq_getElem?_getD, hj]
                    have hvlen : (vals (minL ds) (chunk ds i)).length = (chunk ds i).length := by simp [vals]
                    generalize wid (minL ds) (chunk ds i) = wd at hv2 hln HVV HWM hat hfa
                    have hcu : IntKind.u64.wrap (wd : Int) = (wd : Int) := by simp [IntKind.wrap, IntKind.bits, IntKind.signed]; omega
                    have hc8 : IntKind.u8.wrap (wd : Int) = (wd : Int) := by simp [IntKind.wrap, IntKind.bits, IntKind.signed]; omega
                    have hoff : IntKind.i64.wrap ((P0.length : Int) + (i : Int)) = (P0.length : Int) + (i : Int) := by rw [IntKind.wrap_i64]; have := HPL.out; have := HCI.out; omega
                    have HLN := Aside0.mk hln
                    have HAT := Aside0.mk hat
                    have HFA := Aside0.mk hfa
                    have HVL := Aside0.mk (And.intro hvl hvlen)
                    have HV2 := Aside0.mk hv2
                    clear hln hat hfa hvl hvlen hv1 hv2 hset hrow hwl hx hwd hge hmb hnb hmx hcm hcf hcn
                    go_wp2_with (first | (go_at_call 43; with_reducible refine HLN.out.mono ?_; rintro e w3 ⟨rfl, hw3⟩; subst w3) | (go_at_call 44; with_reducible refine HAT.out.mono ?_; rintro e w4 ⟨⟨rv, rfl⟩, s4, f4⟩; have f4' := HM.out.fr.trans (HFA.out.trans f4); have hE4 := f4'.keep E 90 _ HE2.out (by decide) (by decide) (by decide) (by decide); have y10 : w4.cell? ⟨E, 10, none⟩ = some (.slice (some ⟨g, 0, none⟩) ds.length cap) := (blk_cell hE4 10).trans rfl; have F4 := Aside0.mk f4'; have S4 := Aside0.mk s4; clear f4 f4' hE4 s4))
                    clear y3 y8 y9
                    go_loopg [131] (j + 1) (fun kq v131 w' => ∃ k : Nat, v131 = .int .i64 (k : Int) ∧ Aside0 (k + kq = j + 1) ∧ Aside0 (k ≤ j) ∧ Aside0 (St w' lo W S (P0 ++ wids (minL ds) ds (i + 1)) (N + pack wd ((vals (minL ds) (chunk ds i)).take k) * 2 ^ bits) (bits + wd * k)) ∧ Aside0 (Fr lo w2 w'))
                    case atStart => exact ⟨0, rfl, ⟨by omega⟩, ⟨by omega⟩, ⟨by simpa [pack] using S4.out⟩, F4⟩
                    case round =>
                      obtain ⟨k, rfl, HK4, HJ4, HS4, HF4⟩ := hrel
                      have hE5 := HF4.out.keep E 90 _ HE2.out (by decide) (by decide) (by decide) (by decide)
                      have z3 : wr.cell? ⟨E, 3, none⟩ = some (.pointer (some ⟨W, 0, none⟩)) := (blk_cell hE5 3).trans rfl
                      have z8 : wr.cell? ⟨E, 8, none⟩ = some (.int .u64 32) := (blk_cell hE5 8).trans rfl
                      have g5 := G2.out.fr HF4.out
                      clear hE5
                      cases gk with
                      | zero => exact absurd HK4.out (by have := HJ4.out; omega)
                      | succ k4 =>
                        by_cases c : k < j
                        · have d3 : decide ((k : Int) < (j : Int)) = true := decide_eq_true (by omega)
                          have q1 : (0 : Int) ≤ (k : Int) := by omega
                          have q2 : (k : Int) < (j : Int) := by omega
                          have hkc : k < (chunk ds i).length := by have := HSM.out.2.2.2; omega
                          have hcell := g5.cell (s + k) (by have := HSM.out.1; have := HSM.out.2.1; omega)
                          obtain ⟨v1, v2, v3⟩ := HVL.out.1 k hkc
                          have hmem : (vals (minL ds) (chunk ds i)).getD k 0 ∈ vals (minL ds) (chunk ds i) := by
                            rw [List.getD_eq_getElem?_getD, List.getElem?_eq_getElem (by rw [HVL.out.2]; exact hkc)]
                            exact List.getElem_mem _
                          have hlt := HVV.out _ hmem
                          have hw : IntKind.i64.wrap ((k : Int) + 1) = ((k + 1 : Nat) : Int) := by rw [IntKind.wrap_i64]; have := HSM.out.1; omega
                          have hst := st_val ((vals (minL ds) (chunk ds i)).getD k 0) wd HS4.out HV2.out hlt (by
                            have h1 := HM.out.le; have h2 := HPL.out; have h3 := HCI.out; have h4 := HSM.out.1; have h5 := HV2.out
                            have h6 : wd * k ≤ 64 * 32 := Nat.mul_le_mul h5 (by omega)
                            have h7 := wids_len (minL ds) ds (i + 1)
                            simp; omega)
                          rw [pack_step N wd bits _ k (by rw [HVL.out.2]; exact hkc), show bits + wd * k + wd = bits + wd * (k + 1) by rw [Nat.mul_succ]; omega, v1] at hst
                          have hnb := HMN.out.1.1
                          generalize ds.getD (s + k) 0 = d at hcell v2 v3 hst
                          have hcv : IntKind.u64.wrap (wrap64 (d - minL ds)) = (((d - minL ds).toNat : Nat) : Int) := by
                            unfold wrap64; simp [IntKind.wrap, IntKind.bits, IntKind.signed]; omega
                          have hcv2 : IntKind.u64.wrap (IntKind.i64.wrap (d - minL ds)) = (((d - minL ds).toNat : Nat) : Int) := by
                            rw [IntKind.wrap_i64]; simp [IntKind.wrap, IntKind.bits, IntKind.signed]; omega
                          generalize (d - minL ds).toNat = dn at hcv hcv2 hst
                          have HST := Aside0.mk hst
                          clear hst v1 v2 v3 hmem hlt hkc c hnb g5
                          go_wp2_with (first | (go_at_call 45; with_reducible refine HST.out.mono ?_; rintro e w5 ⟨rfl, s5, f5⟩; have S5 := Aside0.mk s5; have F5 := Aside0.mk f5; clear s5 f5))
                          go_roundg k4
                          case measure => have := HK4.out; omega
                          case rel => exact ⟨k + 1, by simp, ⟨by have := HK4.out; omega⟩, ⟨by omega⟩, S5, ⟨HF4.out.trans F5.out⟩⟩
                        · have d3 : decide ((k : Int) < (j : Int)) = false := decide_eq_false (by omega)
                          have hk : k = j := by have := HJ4.out; omega
                          subst hk
                          have htk : (vals (minL ds) (chunk ds i)).take k = vals (minL ds) (chunk ds i) := by rw [← HSM.out.2.2.2, ← HVL.out.2, List.take_length]
                          rw [htk] at HS4
                          clear c htk HK4 HJ4 g5
                          have hsub : IntKind.i64.wrap (((ds.length - 32 * i : Nat) : Int) - (k : Int)) = ((ds.length - 32 * (i + 1) : Nat) : Int) := by rw [IntKind.wrap_i64]; have := HSM.out.1; have := HLE.out; omega
                          have hsub2 : wrap64 (((ds.length - 32 * i : Nat) : Int) - (k : Int)) = ((ds.length - 32 * (i + 1) : Nat) : Int) := by unfold wrap64; have := HSM.out.1; have := HLE.out; omega
                          go_wp2
                          go_loopg [9] 33 (fun kq v9 w' => ∃ n : Nat, v9 = .int .i64 (n : Int) ∧ Aside0 (n + kq = 33 + k) ∧ Aside0 (k ≤ n ∧ n ≤ 32) ∧ Aside0 (St w' lo W S (P0 ++ wids (minL ds) ds (i + 1)) (N + pack wd (vals (minL ds) (chunk ds i)) * 2 ^ bits) (bits + wd * n)) ∧ Aside0 (Fr lo w2 w'))
                          case atStart => exact ⟨k, rfl, ⟨by omega⟩, ⟨by have := HSM.out.1; omega⟩, HS4, HF4⟩
                          case round =>
                            clear z3 z8
                            obtain ⟨n, rfl, HK6, HJ6, HS6, HF6⟩ := hrel
                            have hE7 := HF6.out.keep E 90 _ HE2.out (by decide) (by decide) (by decide) (by decide)
                            have z3 : wr.cell? ⟨E, 3, none⟩ = some (.pointer (some ⟨W, 0, none⟩)) := (blk_cell hE7 3).trans rfl
                            have z8 : wr.cell? ⟨E, 8, none⟩ = some (.int .u64 32) := (blk_cell hE7 8).trans rfl
                            clear hE7
                            cases gk with
                            | zero => exact absurd HK6.out (by have := HJ6.out; have := HSM.out.2.2.1; omega)
                            | succ k6 =>
                              by_cases c : n < 32
                              · have d3 : decide ((n : Int) < 32) = true := decide_eq_true (by omega)
                                have hw : IntKind.i64.wrap ((n : Int) + 1) = ((n + 1 : Nat) : Int) := by rw [IntKind.wrap_i64]; omega
                                have hst := st_val 0 wd HS6.out HV2.out (Nat.two_pow_pos wd) (by
                                  have h1 := HM.out.le; have h2 := HPL.out; have h3 := HCI.out; have h5 := HV2.out
                                  have h6 : wd * n ≤ 64 * 32 := Nat.mul_le_mul h5 (by omega)
                                  have h7 := wids_len (minL ds) ds (i + 1)
                                  simp; omega)
                                rw [Nat.zero_mul, Nat.add_zero, show bits + wd * n + wd = bits + wd * (n + 1) by rw [Nat.mul_succ]; omega] at hst
                                change Calls Try.prog 45 #[_, .int .u64 0, _] _ _ at hst
                                have HST := Aside0.mk hst
                                have HCN := Aside0.mk c
                                clear hst c
                                go_wp2_with (first | (go_at_call 45; with_reducible refine HST.out.mono ?_; rintro e w5 ⟨rfl, s5, f5⟩; have S5 := Aside0.mk s5; have F5 := Aside0.mk f5; clear s5 f5))
                                go_roundg k6
                                case measure => have := HK6.out; omega
                                case rel => exact ⟨n + 1, by simp, ⟨by have := HK6.out; omega⟩, ⟨by have := HJ6.out; have := HCN.out; omega⟩, S5, ⟨HF6.out.trans F5.out⟩⟩
                              · have d3 : decide ((n : Int) < 32) = false := decide_eq_false (by omega)
                                have hn2 : n = 32 := by have := HJ6.out; omega
                                subst hn2
                                have hw : IntKind.i64.wrap ((i : Int) + 1) = ((i + 1 : Nat) : Int) := by rw [IntKind.wrap_i64]; have := HCI.out; omega
                                have HN := Aside0.mk (HWM.out wr HS6.out HF6.out)
                                clear c
                                go_wp2
                                go_roundg k0
                                case measure => omega
                                case rel => exact ⟨i + 1, _, _, by simp, rfl, ⟨by have := HK.out; omega⟩, ⟨by have := HCI.out; omega⟩, HN⟩
          · have c2 : decide ((i : Int) < 4) = false := decide_eq_false (by omega)
            have hi4 : i = 4 := by have := HI.out; omega
            clear c
            have HM0 := Aside0.mk (show ds.length ≤ 32 * i by have := HLE.out; omega)
            clear hi4
            have hz10 := blk_frozen HE3.out 10
            have hs0 := slice_d0 g ds.length cap
            go_wp2
            go_end0
            have hsm := HM.out.end_ HM0.out HI.out
            rw [← HP.out, show out ++ leb (zz (minL ds)) ++ wids (minL ds) ds 4 ++ bodies (minL ds) ds 4 = out ++ block ds by simp [block]] at hsm
            obtain ⟨a1, a2⟩ := En.cut HE3.out HLO.out G3.out hsm (F2.out.trans HM.out.fr).below (by decide) (by decide) (by decide) (by decide) (by decide)
            exact ⟨rfl, a1, a2⟩
end Go.Proofs.Ytdekingogcmboaa.Q
