/- spec.SplitStream, walked (printed, with its make put back by hand): of at most 4096 bytes. -/
import Derived.Test.YtnjniacohbeonaaQ0
import Derived.Test.YtnjniacohbeonaaQTrBa
namespace Go.Proofs.Ytnjniacohbeonaa.Q
open Go.RowKit Go.Proofs.YtnjniacohbeonaaW.PrintWords Go.Proofs.YtnjniacohbeonaaW.PrintLast Go.Proofs.YtnjniacohbeonaaW.PrintMore
attribute [local go_sem] max2_int min2_int max_two min_two max_three min_three max_four min_four
set_option linter.unusedVariables false
set_option linter.unusedSimpArgs false

/-! ### spec_SplitStream: function 35 -/
mutual
def spec_SplitStream.l0 : Nat → List Int → Int → Int → List Int → Int → Option (List Int)
  | 0, _, _, _, _, _ => none
  | k + 1, x0, x1, x5, x6, x7 => if x7 < x1 then (spec_SplitStream.l1 k x0 x1 x5 x6 x7 0) else (some x6)
def spec_SplitStream.l1 : Nat → List Int → Int → Int → List Int → Int → Int → Option (List Int)
  | 0, _, _, _, _, _, _ => none
  | k + 1, x0, x1, x5, x6, x7, x8 => if x8 < x5 then (if 0 ≤ (wrap64 ((wrap64 (x8 * x1)) + x7)) then (if (wrap64 ((wrap64 (x8 * x1)) + x7)) < (x0.length : Int) then (if x6.length < 140737488355328 then (spec_SplitStream.l1 k x0 x1 x5 (x6 ++ [rd x0 (wrap64 ((wrap64 (x8 * x1)) + x7))]) x7 (wrap64 (x8 + 1))) else (none)) else (none)) else (none)) else (spec_SplitStream.l0 k x0 x1 x5 x6 (wrap64 (x7 + 1)))
end
def spec_SplitStream.f (k : Nat) (l0 : List Int) (a1 : Int) : Option (List Int) := if l0.length ≤ 4096 then (if a1 = 0 then (none) else (spec_SplitStream.l0 k l0 a1 (wrap64 ((l0.length : Int) / a1)) ([] : List Int) 0)) else none
theorem spec_SplitStream.mono_l : ∀ k, (∀ y0 y1 y2 y3 y4, LeO (spec_SplitStream.l0 k y0 y1 y2 y3 y4) (spec_SplitStream.l0 (k + 1) y0 y1 y2 y3 y4)) ∧ (∀ y0 y1 y2 y3 y4 y5, LeO (spec_SplitStream.l1 k y0 y1 y2 y3 y4 y5) (spec_SplitStream.l1 (k + 1) y0 y1 y2 y3 y4 y5))
  | 0 => ⟨fun _ _ _ _ _ r h => by simp [spec_SplitStream.l0] at h, fun _ _ _ _ _ _ r h => by simp [spec_SplitStream.l1] at h⟩
  | k + 1 => by
    obtain ⟨ih0, ih1⟩ := spec_SplitStream.mono_l k
    refine ⟨?_, ?_⟩
    · intro y0 y1 y2 y3 y4
      unfold spec_SplitStream.l0
      repeat' first
      | (with_reducible exact ih0 _ _ _ _ _)
      | (with_reducible exact ih1 _ _ _ _ _ _)
      | (with_reducible exact LeO.refl _)
      | (with_reducible exact LeO.none _)
      | (with_reducible refine LeO.ite ?_ ?_)
      | (with_reducible refine LeO.bind ?_ (fun _ => ?_))
      | exact ih0 _ _ _ _ _
      | exact ih1 _ _ _ _ _ _
      | exact LeO.none _
      | refine LeO.ite ?_ ?_
      | refine LeO.bind ?_ (fun _ => ?_)
    · intro y0 y1 y2 y3 y4 y5
      unfold spec_SplitStream.l1
      repeat' first
      | (with_reducible exact ih0 _ _ _ _ _)
      | (with_reducible exact ih1 _ _ _ _ _ _)
      | (with_reducible exact LeO.refl _)
      | (with_reducible exact LeO.none _)
      | (with_reducible refine LeO.ite ?_ ?_)
      | (with_reducible refine LeO.bind ?_ (fun _ => ?_))
      | exact ih0 _ _ _ _ _
      | exact ih1 _ _ _ _ _ _
      | exact LeO.none _
      | refine LeO.ite ?_ ?_
      | refine LeO.bind ?_ (fun _ => ?_)
theorem spec_SplitStream.mono : ∀ a0 a1 k, LeO (spec_SplitStream.f k a0 a1) (spec_SplitStream.f (k + 1) a0 a1) := by
  intro a0 a1 k
  obtain ⟨ih0, ih1⟩ := spec_SplitStream.mono_l k
  unfold spec_SplitStream.f
  repeat' first
      | (with_reducible exact ih0 _ _ _ _ _)
      | (with_reducible exact ih1 _ _ _ _ _ _)
      | (with_reducible exact LeO.refl _)
      | (with_reducible exact LeO.none _)
      | (with_reducible refine LeO.ite ?_ ?_)
      | (with_reducible refine LeO.bind ?_ (fun _ => ?_))
      | exact ih0 _ _ _ _ _
      | exact ih1 _ _ _ _ _ _
      | exact LeO.none _
      | refine LeO.ite ?_ ?_
      | refine LeO.bind ?_ (fun _ => ?_)
set_option maxHeartbeats 8000000 in
set_option maxRecDepth 100000 in
theorem spec_SplitStream.calls (k : Nat) (A0 : Option Addr) (c0 : Nat) (l0 : List Int) (a1 : Int) (r : List Int) (w : World) (hr0 : Kd.C (Kd.int .u8) w A0 l0.length l0) (hc0 : l0.length ≤ c0) (h : spec_SplitStream.f k l0 a1 = some r) :
    Calls Try.prog 35 #[.slice A0 l0.length c0, .int .i64 a1] w fun e w' => ∃ v0_ : Value, e = .returned (v0_) ∧ Kd.R (Kd.int .u8) 5 w' w.heap.size (fun _ => True) v0_ r ∧ Below w.heap.size w w' := by
  have HR0 := Aside0.mk hr0
  have HC0 := Aside0.mk hc0
  clear hr0 hc0
  have HB := Aside0.mk (Below.refl w.heap.size w)
  unfold spec_SplitStream.f at h
  by_cases hn_ : l0.length ≤ 4096
  case neg => rw [if_neg hn_] at h; cases h
  rw [if_pos hn_] at h
  have HN := Aside0.mk hn_
  clear hn_
  obtain ⟨i5, hi5, hz5, hs5, hb5⟩ := info_parts (show (Try.prog.info? 5).map (fun i => (i.zero, i.size, i.bytes)) = some (some (.int .u8 0), 1, 1) by kernel_rfl)
  have HI := Aside0.mk hi5
  have HZ := Aside0.mk hz5
  have HS := Aside0.mk hs5
  have HBY := Aside0.mk hb5
  clear hi5 hz5 hs5 hb5
  have H : (if a1 = 0 then (none) else (spec_SplitStream.l0 k l0 a1 (wrap64 ((l0.length : Int) / a1)) ([] : List Int) 0)) = some r := h
  clear h
  by_cases c3 : a1 = 0
  · rw [if_pos c3] at H
    exact absurd H (by simp)
  · rw [if_neg c3] at H
    have c3b0 : (a1 == 0) = false := beq_eq_false_iff_ne.mpr c3
    have c3b1 : (a1 != 0) = true := bne_iff_ne.mpr c3
    have H' := Aside0.mk H
    clear H
    go_enter Try.func35, Try.ntmps35
    go_wp2_with (first | ((with_reducible refine gate_dst (N := 15) rfl ?_); refine wpList_make_own _ rfl _ _ 46 rfl w.heap.size 5 i5 (.int .u8 0) 1 Try.underlying46 HI.out HZ.out HS.out .i64 .i64 _ l0.length rfl rfl rfl (by rw [HBY.out]; have := HN.out; omega) (by have := HN.out; simp [maxLen]; omega) (Nat.le_refl _) ?_; intro w9 hown hgr; have n0_ := Aside0.mk (Kd.R_of_own (h1 := fun _ => rfl) (enc := Value.int .u8) (xs := ([] : List Int)) (ok := fun _ => True) hown (fun _ _ => trivial)); have n1_ := Aside0.mk (Below.grown HB.out hgr (Nat.le_refl _) (fun k hk => by cases hk)); clear HB hown hgr; have HB := n1_; have HOO := n0_; clear n0_ n1_))
    go_loopg [6, 7] k (fun kq v6 v7 w' => ∃ (x6_1 : List Int) (x7_1 : Int), v7 = .int .i64 x7_1 ∧ Aside0 (spec_SplitStream.l0 kq l0 a1 (wrap64 ((l0.length : Int) / a1)) x6_1 x7_1 = some r) ∧ Aside0 (kq ≤ k) ∧ Aside0 (Kd.R (Kd.int .u8) 5 w' w.heap.size (fun _ => True) v6 x6_1) ∧ Aside0 (Below w.heap.size w w'))
    case atStart => exact ⟨(([] : List Int)), (0), (by first | rfl | (simp; done) | (simp [*]; done)), H', ⟨Nat.le_refl _⟩, ⟨by first | exact HOO.out | exact Kd.R_drewN HOO.out | exact Kd.R_nil _ _ _ _ _ | exact Kd.N_nil _ _ _ _ _ | exact Kd.V_nil _ _ _ _ _ | exact Kd.Q_nil _ _ _ _ _ | exact Kd.S_nil _ _ _ _ _⟩, ⟨by repeat (first | (with_reducible first | exact HB.out | apply below_alloc | apply pw_below_drewN | apply below_drew1) | exact HB.out)⟩⟩
    case round =>
      clear H'
      try clear p2
      try clear c3
      try clear c3b0
      try clear c3b1
      obtain ⟨x6_1, x7_1, rfl, HA, HK1, HO_6, HB⟩ := hrel
      cases gk with
      | zero => exact absurd HA.out (by simp [spec_SplitStream.l0])
      | succ k1 =>
        have H := HA.out
        clear HA
        simp only [spec_SplitStream.l0] at H
        by_cases c4 : x7_1 < a1
        · rw [if_pos c4] at H
          have c4b0 : decide (x7_1 < a1) = true := decide_eq_true c4
          clear c4
          have H' := Aside0.mk H
          clear H
          go_wp2
          go_loopg [6, 8] k1 (fun kq v6 v8 w' => ∃ (x6_2 : List Int) (x8_2 : Int), v8 = .int .i64 x8_2 ∧ Aside0 (spec_SplitStream.l1 kq l0 a1 (wrap64 ((l0.length : Int) / a1)) x6_2 x7_1 x8_2 = some r) ∧ Aside0 (kq ≤ k1) ∧ Aside0 (Kd.R (Kd.int .u8) 5 w' w.heap.size (fun _ => True) v6 x6_2) ∧ Aside0 (Below w.heap.size w w'))
          case atStart => exact ⟨(x6_1), (0), (by first | rfl | (simp; done) | (simp [*]; done)), H', ⟨Nat.le_refl _⟩, ⟨by (with_reducible repeat (first | apply Kd.R_alloc | apply Kd.R_drewN | apply Kd.R_drew)); exact HO_6.out⟩, ⟨by repeat (first | (with_reducible first | exact HB.out | apply below_alloc | apply pw_below_drewN | apply below_drew1) | exact HB.out)⟩⟩
          case round =>
            clear H'
            try clear p2
            try clear c3
            try clear c3b0
            try clear c3b1
            try clear c4
            try clear c4b0
            try clear p2
            obtain ⟨x6_2, x8_2, rfl, HA, HK2, HO_6, HB⟩ := hrel
            cases gk with
            | zero => exact absurd HA.out (by simp [spec_SplitStream.l1])
            | succ k2 =>
              have H := HA.out
              clear HA
              simp only [spec_SplitStream.l1] at H
              by_cases c5 : x8_2 < (wrap64 ((l0.length : Int) / a1))
              · rw [if_pos c5] at H
                have c5b0 : decide (x8_2 < (wrap64 ((l0.length : Int) / a1))) = true := decide_eq_true c5
                clear c5
                obtain ⟨ji6, hji6⟩ : ∃ j_ : Int, (wrap64 ((wrap64 (x8_2 * a1)) + x7_1)) = j_ := ⟨_, rfl⟩
                replace H : (if 0 ≤ (ji6) then (if (ji6) < (l0.length : Int) then (if x6_2.length < 140737488355328 then (spec_SplitStream.l1 k2 l0 a1 (wrap64 ((l0.length : Int) / a1)) (x6_2 ++ [rd l0 (ji6)]) x7_1 (wrap64 (x8_2 + 1))) else (none)) else (none)) else (none)) = some r := by first | (rw [hji6] at H; exact H) | (simp only [hji6] at H ⊢; exact H)
                have hji6w : (IntKind.i64.wrap ((wrap64 (x8_2 * a1)) + x7_1)) = ji6 := (i64_w _).trans hji6
                by_cases c7 : 0 ≤ (ji6)
                · rw [if_pos c7] at H
                  have c7b0 : decide (0 ≤ (ji6)) = true := decide_eq_true c7
                  clear c7
                  by_cases c8 : (ji6) < (l0.length : Int)
                  · rw [if_pos c8] at H
                    have c8b0 : decide ((ji6) < (l0.length : Int)) = true := decide_eq_true c8
                    clear c8
                    by_cases c9 : x6_2.length < 140737488355328
                    · rw [if_pos c9] at H
                      have LMc9 := Aside0.mk c9
                      clear c9
                      obtain ⟨y139, hy139⟩ : ∃ y_ : List Int, y_ = (x6_2 ++ [rd l0 (ji6)]) := ⟨_, rfl⟩
                      replace H : (spec_SplitStream.l1 k2 l0 a1 (wrap64 ((l0.length : Int) / a1)) y139 x7_1 (wrap64 (x8_2 + 1))) = some r := by first | (rw [hy139]; with_reducible exact H) | (have H2_ := (Option.bind_some _ _).symm.trans H; rw [hy139]; with_reducible exact H2_) | (have H2_ := (Option.bind_some _ _).symm.trans H; with_reducible exact H2_) | with_reducible exact H | (rw [hy139]; exact H) | exact H
                      have Ny139 := Aside0.mk hy139
                      clear hy139
                      have H' := Aside0.mk H
                      clear H
                      have p138 : 0 ≤ ((ji6) : Int) := of_decide_eq_true (by first | (with_reducible assumption) | assumption)
                      have q138 : (ji6) < (l0.length : Int) := of_decide_eq_true (by first | (with_reducible assumption) | assumption)
                      obtain ⟨ad138, e138, hx138_0⟩ := Kd.at_int HR0.out (ji6) p138 q138
                      cases e138
                      replace hx138_0 := (HB.out.cell (World.block_lt_of_cell? w _ hx138_0)).trans hx138_0
                      replace p138 := eq_true p138
                      replace q138 := eq_true q138
                      go_wp2_with (first | ((with_reducible refine gate_builtin (b := .append) (xs := #[.tmp 26, .tmp 35]) rfl ?_); at_builtin; refine Kd.R_append (Kd.int .u8) (w0 := w) w.heap.size rfl (.tmp 26) (.tmp 35) 46 5 (.int .u8 0) 1 rfl Try.underlying46 info5 rfl (by decide) (by omega) u6 x6_2 (rd l0 (ji6)) [.int .u8 (rd l0 (ji6))] (fun _ => True) (fun _ => False) rfl rfl ?aP (fun _ hk => hk.elim) ?aF ?aO ?aB ?aS ?aL ?_; (case aP => exact rfl); (case aB => exact (by repeat (first | (with_reducible first | exact HB.out | apply below_alloc | apply pw_below_drewN | apply below_drew1) | exact HB.out))); (case aF => exact (fun _ _ => trivial)); (case aO => exact (by (with_reducible repeat (first | apply Kd.R_alloc | apply Kd.R_drewN | apply Kd.R_drew)); exact HO_6.out)); (case aS => exact (below_size (by repeat (first | (with_reducible first | exact HB.out | apply below_alloc | apply pw_below_drewN | apply below_drew1) | exact HB.out)))); (case aL => have := LMc9.out; omega); intro v140 w10 ho hb hg hat; rw [← Ny139.out] at ho; have n0_ := Aside0.mk (hb); have n1_ := Aside0.mk (ho); clear HB; clear HO_6; have HB := n0_; have HO141 := n1_; clear n0_ n1_; clear ho hb hg hat))
                      go_roundg k2
                      case measure => have := HK1.out; have := HK2.out; omega
                      case rel => exact ⟨(y139), (wrap64 (x8_2 + 1)), (by first | rfl | (simp; done) | (simp [*]; done)), H', ⟨by have := HK1.out; have := HK2.out; omega⟩, ⟨by (with_reducible repeat (first | apply Kd.R_alloc | apply Kd.R_drewN | apply Kd.R_drew)); exact HO141.out⟩, ⟨by repeat (first | (with_reducible first | exact HB.out | apply below_alloc | apply pw_below_drewN | apply below_drew1) | exact HB.out)⟩⟩
                    · rw [if_neg c9] at H
                      exact absurd H (by simp)
                  · rw [if_neg c8] at H
                    exact absurd H (by simp)
                · rw [if_neg c7] at H
                  exact absurd H (by simp)
              · rw [if_neg c5] at H
                have c5b0 : decide (x8_2 < (wrap64 ((l0.length : Int) / a1))) = false := decide_eq_false c5
                clear c5
                have H' := Aside0.mk H
                clear H
                go_wp2
                go_roundg k2
                case measure => have := HK1.out; have := HK2.out; omega
                case rel => exact ⟨(x6_2), (wrap64 (x7_1 + 1)), (by first | rfl | (simp; done) | (simp [*]; done)), H', ⟨by have := HK1.out; have := HK2.out; omega⟩, ⟨by (with_reducible repeat (first | apply Kd.R_alloc | apply Kd.R_drewN | apply Kd.R_drew)); exact HO_6.out⟩, ⟨by repeat (first | (with_reducible first | exact HB.out | apply below_alloc | apply pw_below_drewN | apply below_drew1) | exact HB.out)⟩⟩
        · rw [if_neg c4] at H
          have c4b0 : decide (x7_1 < a1) = false := decide_eq_false c4
          clear c4
          obtain rfl := Option.some.inj H
          go_wp2
          go_ret
          exact ⟨_, by first | rfl | (simp [errW_none, errW_some] <;> rfl) | (simp [*, errW_none, errW_some] <;> rfl), by (with_reducible repeat (first | apply Kd.R_alloc | apply Kd.R_drewN | apply Kd.R_drew)); exact HO_6.out, by repeat (first | (with_reducible first | exact HB.out | apply below_alloc | apply pw_below_drewN | apply below_drew1) | exact HB.out)⟩

end Go.Proofs.Ytnjniacohbeonaa.Q
