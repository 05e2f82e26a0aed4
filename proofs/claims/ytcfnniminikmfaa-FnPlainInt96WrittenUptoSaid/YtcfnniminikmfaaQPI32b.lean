-- written by programs of ours (wip/tools) out of the kit's printer: the functions of one law, less those that are shared or proved by hand
import Derived.Test.YtcfnniminikmfaaPb
import Derived.Test.YtcfnniminikmfaaQ0
namespace Go.Proofs.Ytcfnniminikmfaa.Q
open Go.RowKit Go.Proofs.YtcfnniminikmfaaW.PrintWords Go.Proofs.YtcfnniminikmfaaW.PrintLast Go.Proofs.YtcfnniminikmfaaW.PrintMore
attribute [local go_sem] max2_int min2_int max_two min_two max_three min_three max_four min_four
set_option linter.unusedVariables false
set_option linter.unusedSimpArgs false

/-! ### spec_Plainly: function 12 -/
def spec_Plainly.l0 : Nat → List Int → List (S29) → Int → Int → Int → Int → Bool → Int → Int → Int → ByteArray → Bool → List Int → List Int → Option (List Int)
  | 0, _, _, _, _, _, _, _, _, _, _, _, _, _, _ => none
  | k + 1, x5, x8, x9, x10, x128000, x128001, x128002, x128003, x128004, x128005, x128006, x128007, x128008, x128009 => if x10 < x9 then (if 0 ≤ x10 then (if x10 < (x8.length : Int) then ((spec_PlainBytes.f x128000 x128001 x128002 x128003 x128004 x128005 x128006 x128007 x128008 x128009 ((rd_T29 x8 x10).f0) ((rd_T29 x8 x10).f1) ((rd_T29 x8 x10).f2) ((rd_T29 x8 x10).f3)).bind fun t130 => (if x5.length + t130.length < 140737488355328 then (spec_Plainly.l0 k (x5 ++ t130) x8 x9 (wrap64 (x10 + 1)) x128000 x128001 x128002 x128003 x128004 x128005 x128006 x128007 x128008 x128009) else (none))) else (none)) else (none)) else (some x5)
def spec_Plainly.f (k : Nat) (a0_0 : Int) (a0_1 : Int) (a0_2 : Bool) (a0_3 : Int) (a0_4 : Int) (a0_5 : Int) (a0_6 : ByteArray) (a0_7 : Bool) (l0_8 : List Int) (l0_9 : List Int) (l1 : List (S29)) : Option (List Int) := spec_Plainly.l0 k ([] : List Int) l1 (l1.length : Int) 0 a0_0 a0_1 a0_2 a0_3 a0_4 a0_5 a0_6 a0_7 l0_8 l0_9
theorem spec_Plainly.mono_l : ∀ k, (∀ y0 y1 y2 y3 y4 y5 y6 y7 y8 y9 y10 y11 y12 y13, LeO (spec_Plainly.l0 k y0 y1 y2 y3 y4 y5 y6 y7 y8 y9 y10 y11 y12 y13) (spec_Plainly.l0 (k + 1) y0 y1 y2 y3 y4 y5 y6 y7 y8 y9 y10 y11 y12 y13))
  | 0 => fun _ _ _ _ _ _ _ _ _ _ _ _ _ _ r h => by simp [spec_Plainly.l0] at h
  | k + 1 => by
    have ih0 := spec_Plainly.mono_l k
    · intro y0 y1 y2 y3 y4 y5 y6 y7 y8 y9 y10 y11 y12 y13
      unfold spec_Plainly.l0
      repeat' first
      | (with_reducible exact ih0 _ _ _ _ _ _ _ _ _ _ _ _ _ _)
      | (with_reducible exact LeO.refl _)
      | (with_reducible exact LeO.none _)
      | (with_reducible refine LeO.ite ?_ ?_)
      | (with_reducible refine LeO.bind ?_ (fun _ => ?_))
      | exact ih0 _ _ _ _ _ _ _ _ _ _ _ _ _ _
      | exact LeO.none _
      | refine LeO.ite ?_ ?_
      | refine LeO.bind ?_ (fun _ => ?_)
theorem spec_Plainly.mono : ∀ a0 a1 a2 a3 a4 a5 a6 a7 a8 a9 a10 k, LeO (spec_Plainly.f k a0 a1 a2 a3 a4 a5 a6 a7 a8 a9 a10) (spec_Plainly.f (k + 1) a0 a1 a2 a3 a4 a5 a6 a7 a8 a9 a10) := by
  intro a0 a1 a2 a3 a4 a5 a6 a7 a8 a9 a10 k
  have ih0 := spec_Plainly.mono_l k
  unfold spec_Plainly.f
  repeat' first
      | (with_reducible exact ih0 _ _ _ _ _ _ _ _ _ _ _ _ _ _)
      | (with_reducible exact LeO.refl _)
      | (with_reducible exact LeO.none _)
      | (with_reducible refine LeO.ite ?_ ?_)
      | (with_reducible refine LeO.bind ?_ (fun _ => ?_))
      | exact ih0 _ _ _ _ _ _ _ _ _ _ _ _ _ _
      | exact LeO.none _
      | refine LeO.ite ?_ ?_
      | refine LeO.bind ?_ (fun _ => ?_)
set_option maxHeartbeats 8000000 in
set_option maxRecDepth 100000 in
theorem spec_Plainly.calls (k : Nat) (a0_0 : Int) (a0_1 : Int) (a0_2 : Bool) (a0_3 : Int) (a0_4 : Int) (a0_5 : Int) (a0_6 : ByteArray) (a0_7 : Bool) (A0_8 : Option Addr) (c0_8 : Nat) (l0_8 : List Int) (A0_9 : Option Addr) (c0_9 : Nat) (l0_9 : List Int) (A1 : Option Addr) (c1 : Nat) (l1 : List (S29)) (r : List Int) (w : World) (hr0_8 : Kd.C (Kd.int .i64) w A0_8 l0_8.length l0_8) (hc0_8 : l0_8.length ≤ c0_8) (hr0_9 : Kd.C (Kd.int .i64) w A0_9 l0_9.length l0_9) (hc0_9 : l0_9.length ≤ c0_9) (hr1 : Kd.C k29 w A1 l1.length l1) (hc1 : l1.length ≤ c1) (h : spec_Plainly.f k a0_0 a0_1 a0_2 a0_3 a0_4 a0_5 a0_6 a0_7 l0_8 l0_9 l1 = some r) :
    Calls Try.prog 12 #[.agg #[.int .i64 a0_0, .int .i64 a0_1, .bool a0_2, .int .i64 a0_3, .int .i64 a0_4, .int .i64 a0_5, .string a0_6, .bool a0_7, .slice A0_8 l0_8.length c0_8, .slice A0_9 l0_9.length c0_9], .slice A1 l1.length c1] w fun e w' => ∃ v0_ : Value, e = .returned (v0_) ∧ Kd.R (Kd.int .u8) 5 w' w.heap.size (fun _ => True) v0_ r ∧ Below w.heap.size w w' := by
  have hu35 := Try.underlying35
  have hu29 := Try.underlying29
  have HR0_8 := Aside0.mk hr0_8
  have HC0_8 := Aside0.mk hc0_8
  clear hr0_8 hc0_8
  have HR0_9 := Aside0.mk hr0_9
  have HC0_9 := Aside0.mk hc0_9
  clear hr0_9 hc0_9
  have HR1 := Aside0.mk hr1
  have HC1 := Aside0.mk hc1
  clear hr1 hc1
  have HB := Aside0.mk (Below.refl w.heap.size w)
  have H : (spec_Plainly.l0 k ([] : List Int) l1 (l1.length : Int) 0 a0_0 a0_1 a0_2 a0_3 a0_4 a0_5 a0_6 a0_7 l0_8 l0_9) = some r := h
  clear h
  have H' := Aside0.mk H
  clear H
  go_enter Try.func12, Try.ntmps12
  go_wp2_with (first | ((with_reducible refine gate_dst (N := 2) rfl ?_); refine box_event ?hg (N := 2) ?hd (cs := #[.int .i64 a0_0, .int .i64 a0_1, .bool a0_2, .int .i64 a0_3, .int .i64 a0_4, .int .i64 a0_5, .string a0_6, .bool a0_7, .slice A0_8 l0_8.length c0_8, .slice A0_9 l0_9.length c0_9]) (t := 35) ?hr ?_; (case hd => rfl); (case hg => rfl); (case hr => first | (go_simp; done) | (go_simp; rfl)); intro gb127 hg w3 hbox hb; have n0_ := Aside0.mk (below_step (by repeat (first | (with_reducible first | exact HB.out | apply below_alloc | apply pw_below_drewN | apply below_drew1) | exact HB.out)) hb); have n1_ := Aside0.mk (hbox); have n2_ := Aside0.mk ((by rw [hg]; exact (below_size (by repeat (first | (with_reducible first | exact HB.out | apply below_alloc | apply pw_below_drewN | apply below_drew1) | exact HB.out))) : w.heap.size ≤ gb127)); have n3_ := Aside0.mk ((by rw [hg]; exact (below_size (by repeat (first | (with_reducible first | exact HB.out | apply below_alloc | apply pw_below_drewN | apply below_drew1) | exact HB.out))) : w.heap.size ≤ gb127)); clear HB; have HB := n0_; have BK127 := n1_; have GW127 := n2_; have GE127 := n3_; clear n0_ n1_ n2_ n3_; clear hb hbox hg))
  go_loopg [5, 10] k (fun kq v5 v10 w' => ∃ (x5_1 : List Int) (x10_1 : Int), v10 = .int .i64 x10_1 ∧ Aside0 (spec_Plainly.l0 kq x5_1 l1 (l1.length : Int) x10_1 a0_0 a0_1 a0_2 a0_3 a0_4 a0_5 a0_6 a0_7 l0_8 l0_9 = some r) ∧ Aside0 (kq ≤ k) ∧ Aside0 (Kd.R (Kd.int .u8) 5 w' w.heap.size (fun _ => True) v5 x5_1) ∧ Aside0 (w'.heap[gb127]? = some (.cells #[.int .i64 a0_0, .int .i64 a0_1, .bool a0_2, .int .i64 a0_3, .int .i64 a0_4, .int .i64 a0_5, .string a0_6, .bool a0_7, (.slice A0_8 l0_8.length c0_8), (.slice A0_9 l0_9.length c0_9)] 35 (0, 0))) ∧ Aside0 (Below w.heap.size w w'))
  case atStart => exact ⟨(([] : List Int)), (0), (by first | rfl | (simp; done) | (simp [*]; done)), H', ⟨Nat.le_refl _⟩, ⟨by first | exact Kd.R_nil _ _ _ _ _ | exact Kd.N_nil _ _ _ _ _ | exact Kd.V_nil _ _ _ _ _ | exact Kd.Q_nil _ _ _ _ _ | exact Kd.S_nil _ _ _ _ _⟩, ⟨by (with_reducible repeat (first | refine blk_drewN ?_ _ | refine blk_drew ?_ | refine blk_alloc ?_ _)); exact BK127.out⟩, ⟨by repeat (first | (with_reducible first | exact HB.out | apply below_alloc | apply pw_below_drewN | apply below_drew1 | refine below_set ?_ GE127.out) | exact HB.out)⟩⟩
  case round =>
    clear H'
    try clear c1
    try clear p2
    obtain ⟨x5_1, x10_1, rfl, HA, HK1, HO_5, BK127, HB⟩ := hrel
    cases gk with
    | zero => exact absurd HA.out (by simp [spec_Plainly.l0])
    | succ k1 =>
      have H := HA.out
      clear HA
      simp only [spec_Plainly.l0] at H
      by_cases c4 : x10_1 < (l1.length : Int)
      · rw [if_pos c4] at H
        have c4b0 : decide (x10_1 < (l1.length : Int)) = true := decide_eq_true c4
        clear c4
        by_cases c5 : 0 ≤ x10_1
        · rw [if_pos c5] at H
          have c5b0 : decide (0 ≤ x10_1) = true := decide_eq_true c5
          clear c5
          by_cases c6 : x10_1 < (l1.length : Int)
          · rw [if_pos c6] at H
            have c6b0 : decide (x10_1 < (l1.length : Int)) = true := decide_eq_true c6
            clear c6
            replace H := Option.bind_eq_some_iff.mp H
            obtain ⟨t130, A70, H⟩ := H
            replace H : (if x5_1.length + t130.length < 140737488355328 then (spec_Plainly.l0 k1 (x5_1 ++ t130) l1 (l1.length : Int) (wrap64 (x10_1 + 1)) a0_0 a0_1 a0_2 a0_3 a0_4 a0_5 a0_6 a0_7 l0_8 l0_9) else (none)) = some r := H
            have A7 := Aside0.mk A70
            clear A70
            by_cases c8 : x5_1.length + t130.length < 140737488355328
            · rw [if_pos c8] at H
              have LMc8 := Aside0.mk c8
              clear c8
              obtain ⟨y133, hy133⟩ : ∃ y_ : List Int, y_ = (x5_1 ++ t130) := ⟨_, rfl⟩
              replace H : (spec_Plainly.l0 k1 y133 l1 (l1.length : Int) (wrap64 (x10_1 + 1)) a0_0 a0_1 a0_2 a0_3 a0_4 a0_5 a0_6 a0_7 l0_8 l0_9) = some r := by first | (rw [hy133]; with_reducible exact H) | (have H2_ := (Option.bind_some _ _).symm.trans H; rw [hy133]; with_reducible exact H2_) | (have H2_ := (Option.bind_some _ _).symm.trans H; with_reducible exact H2_) | with_reducible exact H | (rw [hy133]; exact H) | exact H
              have Ny133 := Aside0.mk hy133
              clear hy133
              have H' := Aside0.mk H
              clear H
              have p128 : 0 ≤ (x10_1 : Int) := of_decide_eq_true (by first | (with_reducible assumption) | assumption)
              have q128 : x10_1 < (l1.length : Int) := of_decide_eq_true (by first | (with_reducible assumption) | assumption)
              obtain ⟨ad128, A128_3, c128_3, e128, hx128_0, hx128_1, hx128_2, hx128_3, hl128_3, hi128_3⟩ := at_T29 HR1.out x10_1 p128 q128
              cases e128
              replace hx128_0 := (HB.out.cell (World.block_lt_of_cell? w _ hx128_0)).trans hx128_0
              replace hx128_1 := (HB.out.cell (World.block_lt_of_cell? w _ hx128_1)).trans hx128_1
              replace hx128_2 := (HB.out.cell (World.block_lt_of_cell? w _ hx128_2)).trans hx128_2
              replace hx128_3 := (HB.out.cell (World.block_lt_of_cell? w _ hx128_3)).trans hx128_3
              have HR128_3 := Aside0.mk hi128_3
              have HC128_3 := Aside0.mk hl128_3
              clear hi128_3 hl128_3
              replace p128 := eq_true p128
              replace q128 := eq_true q128
              go_wp2_with (first | ((with_reducible refine gate_dst (N := 7) rfl ?_); refine box_event ?hg (N := 7) ?hd (cs := #[.bool false, .int .u64 0, .string (⟨#[]⟩ : ByteArray), .slice none 0 0]) (t := 29) ?hr ?_; (case hd => rfl); (case hg => rfl); (case hr => first | (go_simp; done) | (go_simp; rfl)); intro gb129 hg w9 hbox hb; have n0_ := Aside0.mk (Kd.R_below (by (with_reducible repeat (first | apply Kd.R_alloc | apply Kd.R_drewN | apply Kd.R_drew)); exact HO_5.out) hb); have n1_ := Aside0.mk (blk_below (g := gb127) (o := .cells #[.int .i64 a0_0, .int .i64 a0_1, .bool a0_2, .int .i64 a0_3, .int .i64 a0_4, .int .i64 a0_5, .string a0_6, .bool a0_7, .slice A0_8 l0_8.length c0_8, .slice A0_9 l0_9.length c0_9] 35 (0, 0)) (by (with_reducible repeat (first | refine blk_drewN ?_ _ | refine blk_drew ?_ | refine blk_alloc ?_ _)); exact BK127.out) hb); have n2_ := Aside0.mk (below_step (by repeat (first | (with_reducible first | exact HB.out | apply below_alloc | apply pw_below_drewN | apply below_drew1 | refine below_set ?_ GE127.out) | exact HB.out)) hb); have n3_ := Aside0.mk (hbox); have n4_ := Aside0.mk ((by rw [hg]; exact (below_size (by repeat (first | (with_reducible first | exact HB.out | apply below_alloc | apply pw_below_drewN | apply below_drew1 | refine below_set ?_ GE127.out) | exact HB.out))) : w.heap.size ≤ gb129)); have n5_ := Aside0.mk ((by rw [hg]; exact (below_size (by repeat (first | (with_reducible first | exact HB.out | apply below_alloc | apply pw_below_drewN | apply below_drew1 | refine below_set ?_ GE127.out) | exact HB.out))) : w.heap.size ≤ gb129)); have n6_ := Aside0.mk ((by rw [hg]; exact Nat.ne_of_lt (blk_lt (g := gb127) (o := .cells #[.int .i64 a0_0, .int .i64 a0_1, .bool a0_2, .int .i64 a0_3, .int .i64 a0_4, .int .i64 a0_5, .string a0_6, .bool a0_7, .slice A0_8 l0_8.length c0_8, .slice A0_9 l0_9.length c0_9] 35 (0, 0)) (by (with_reducible repeat (first | refine blk_drewN ?_ _ | refine blk_drew ?_ | refine blk_alloc ?_ _)); exact BK127.out)) : gb127 ≠ gb129)); have n7_ := Aside0.mk ((by rw [hg]; exact Nat.ne_of_gt (blk_lt (g := gb127) (o := .cells #[.int .i64 a0_0, .int .i64 a0_1, .bool a0_2, .int .i64 a0_3, .int .i64 a0_4, .int .i64 a0_5, .string a0_6, .bool a0_7, .slice A0_8 l0_8.length c0_8, .slice A0_9 l0_9.length c0_9] 35 (0, 0)) (by (with_reducible repeat (first | refine blk_drewN ?_ _ | refine blk_drew ?_ | refine blk_alloc ?_ _)); exact BK127.out)) : gb129 ≠ gb127)); clear HO_5; clear BK127; clear HB; have HO_5 := n0_; have BK127 := n1_; have HB := n2_; have BK129 := n3_; have GW129 := n4_; have GE129 := n5_; have NB127_129 := n6_; have NB129_127 := n7_; clear n0_ n1_ n2_ n3_ n4_ n5_ n6_ n7_; clear hb hbox hg; have hnb10 := NB129_127.out; have hnc10 := NB127_129.out; have hcz11_0 : w9.cell? ⟨gb129, 0, none⟩ = some (.bool false) := (blk_cell BK129.out 0).trans rfl; have hcz11_1 : w9.cell? ⟨gb129, 1, none⟩ = some (.int .u64 0) := (blk_cell BK129.out 1).trans rfl; have hcz11_2 : w9.cell? ⟨gb129, 2, none⟩ = some (.string (⟨#[]⟩ : ByteArray)) := (blk_cell BK129.out 2).trans rfl; have hcz11_3 : w9.cell? ⟨gb129, 3, none⟩ = some (.slice none 0 0) := (blk_cell BK129.out 3).trans rfl; have hfz11_0 := blk_frozen BK129.out 0; have hfz11_1 := blk_frozen BK129.out 1; have hfz11_2 := blk_frozen BK129.out 2; have hfz11_3 := blk_frozen BK129.out 3; have hcz12_0 : w9.cell? ⟨gb127, 0, none⟩ = some (.int .i64 a0_0) := (blk_cell BK127.out 0).trans rfl; have hcz12_1 : w9.cell? ⟨gb127, 1, none⟩ = some (.int .i64 a0_1) := (blk_cell BK127.out 1).trans rfl; have hcz12_2 : w9.cell? ⟨gb127, 2, none⟩ = some (.bool a0_2) := (blk_cell BK127.out 2).trans rfl; have hcz12_3 : w9.cell? ⟨gb127, 3, none⟩ = some (.int .i64 a0_3) := (blk_cell BK127.out 3).trans rfl; have hcz12_4 : w9.cell? ⟨gb127, 4, none⟩ = some (.int .i64 a0_4) := (blk_cell BK127.out 4).trans rfl; have hcz12_5 : w9.cell? ⟨gb127, 5, none⟩ = some (.int .i64 a0_5) := (blk_cell BK127.out 5).trans rfl; have hcz12_6 : w9.cell? ⟨gb127, 6, none⟩ = some (.string a0_6) := (blk_cell BK127.out 6).trans rfl; have hcz12_7 : w9.cell? ⟨gb127, 7, none⟩ = some (.bool a0_7) := (blk_cell BK127.out 7).trans rfl; have hcz12_8 : w9.cell? ⟨gb127, 8, none⟩ = some (.slice A0_8 l0_8.length c0_8) := (blk_cell BK127.out 8).trans rfl; have hcz12_9 : w9.cell? ⟨gb127, 9, none⟩ = some (.slice A0_9 l0_9.length c0_9) := (blk_cell BK127.out 9).trans rfl; have hfz12_0 := blk_frozen BK127.out 0; have hfz12_1 := blk_frozen BK127.out 1; have hfz12_2 := blk_frozen BK127.out 2; have hfz12_3 := blk_frozen BK127.out 3; have hfz12_4 := blk_frozen BK127.out 4; have hfz12_5 := blk_frozen BK127.out 5; have hfz12_6 := blk_frozen BK127.out 6; have hfz12_7 := blk_frozen BK127.out 7; have hfz12_8 := blk_frozen BK127.out 8; have hfz12_9 := blk_frozen BK127.out 9) | ((with_reducible refine gate_callee (f := 27) rfl ?_); refine goesL_ (some 17) rfl rfl Try.func27 (by kernel_rfl) rfl #[.agg #[.int .i64 a0_0, .int .i64 a0_1, .bool a0_2, .int .i64 a0_3, .int .i64 a0_4, .int .i64 a0_5, .string a0_6, .bool a0_7, .slice A0_8 l0_8.length c0_8, .slice A0_9 l0_9.length c0_9], .agg #[.bool ((rd_T29 l1 x10_1).f0), .int .u64 ((rd_T29 l1 x10_1).f1), .string ((rd_T29 l1 x10_1).f2), .slice A128_3 ((rd_T29 l1 x10_1).f3).length c128_3]] rfl (by (try simp only [List.map_toArray, List.map_cons, List.map_nil]); first | done | rfl | (simp only [List.length_drop, List.length_take]; rfl)) ?_; (with_reducible refine (spec_PlainBytes.calls a0_0 a0_1 a0_2 a0_3 a0_4 a0_5 a0_6 a0_7 _ _ l0_8 _ _ l0_9 ((rd_T29 l1 x10_1).f0) ((rd_T29 l1 x10_1).f1) ((rd_T29 l1 x10_1).f2) _ _ ((rd_T29 l1 x10_1).f3) t130 _ ?side1 ?side2 ?side3 ?side4 ?side5 ?side6 A7.out).mono ?_); (case side1 => exact Kd.C_below HR0_8.out (by repeat (first | (with_reducible first | exact HB.out | apply below_alloc | apply pw_below_drewN | apply below_drew1 | refine below_set ?_ GE127.out | refine below_set ?_ GE129.out) | exact HB.out))); (case side2 => exact HC0_8.out); (case side3 => exact Kd.C_below HR0_9.out (by repeat (first | (with_reducible first | exact HB.out | apply below_alloc | apply pw_below_drewN | apply below_drew1 | refine below_set ?_ GE127.out | refine below_set ?_ GE129.out) | exact HB.out))); (case side4 => exact HC0_9.out); (case side5 => exact Kd.C_below HR128_3.out (by repeat (first | (with_reducible first | exact HB.out | apply below_alloc | apply pw_below_drewN | apply below_drew1 | refine below_set ?_ GE127.out | refine below_set ?_ GE129.out) | exact HB.out))); (case side6 => exact HC128_3.out); rintro e w13 ⟨Ao15, co15, rfl, ho0, hb⟩; refine ⟨_, rfl, ?_⟩; have n0_ := Aside0.mk (Kd.R_below (ok := fun _ => True) (by (with_reducible repeat (first | apply Kd.R_alloc | apply Kd.R_drewN | apply Kd.R_drew)); exact (Kd.R_mono (Kd.R_far (p := ⟨gb129, 3, none⟩) (Kd.R_far (p := ⟨gb129, 2, none⟩) (Kd.R_far (p := ⟨gb129, 1, none⟩) (Kd.R_far (p := ⟨gb129, 0, none⟩) (Kd.R_types HO_5.out BK129.out (by decide)) (fun _ hk => hk.2) (.bool ((rd_T29 l1 x10_1).f0))) (fun _ hk => hk.2) (.int .u64 ((rd_T29 l1 x10_1).f1))) (fun _ hk => hk.2) (.string ((rd_T29 l1 x10_1).f2))) (fun _ hk => hk.2) (.slice A128_3 ((rd_T29 l1 x10_1).f3).length c128_3)) (fun _ _ => trivial))) hb); have n1_ := Aside0.mk ho0; have n2_ := Aside0.mk (blk_below (g := gb127) (o := .cells #[.int .i64 a0_0, .int .i64 a0_1, .bool a0_2, .int .i64 a0_3, .int .i64 a0_4, .int .i64 a0_5, .string a0_6, .bool a0_7, .slice A0_8 l0_8.length c0_8, .slice A0_9 l0_9.length c0_9] 35 (0, 0)) (by (with_reducible repeat (first | refine blk_drewN ?_ _ | refine blk_drew ?_ | refine blk_alloc ?_ _)); refine blk_far ?_ NB127_129.out _; (with_reducible repeat (first | refine blk_drewN ?_ _ | refine blk_drew ?_ | refine blk_alloc ?_ _)); refine blk_far ?_ NB127_129.out _; (with_reducible repeat (first | refine blk_drewN ?_ _ | refine blk_drew ?_ | refine blk_alloc ?_ _)); refine blk_far ?_ NB127_129.out _; (with_reducible repeat (first | refine blk_drewN ?_ _ | refine blk_drew ?_ | refine blk_alloc ?_ _)); refine blk_far ?_ NB127_129.out _; (with_reducible repeat (first | refine blk_drewN ?_ _ | refine blk_drew ?_ | refine blk_alloc ?_ _)); exact BK127.out) hb); have n3_ := Aside0.mk (blk_below (g := gb129) (o := .cells #[.bool ((rd_T29 l1 x10_1).f0), .int .u64 ((rd_T29 l1 x10_1).f1), .string ((rd_T29 l1 x10_1).f2), .slice A128_3 ((rd_T29 l1 x10_1).f3).length c128_3] 29 (0, 0)) (by (with_reducible repeat (first | refine blk_drewN ?_ _ | refine blk_drew ?_ | refine blk_alloc ?_ _)); refine blk_put (cs := #[.bool ((rd_T29 l1 x10_1).f0), .int .u64 ((rd_T29 l1 x10_1).f1), .string ((rd_T29 l1 x10_1).f2), .slice none 0 0]) ?_ 3 _ rfl; (with_reducible repeat (first | refine blk_drewN ?_ _ | refine blk_drew ?_ | refine blk_alloc ?_ _)); refine blk_put (cs := #[.bool ((rd_T29 l1 x10_1).f0), .int .u64 ((rd_T29 l1 x10_1).f1), .string (⟨#[]⟩ : ByteArray), .slice none 0 0]) ?_ 2 _ rfl; (with_reducible repeat (first | refine blk_drewN ?_ _ | refine blk_drew ?_ | refine blk_alloc ?_ _)); refine blk_put (cs := #[.bool ((rd_T29 l1 x10_1).f0), .int .u64 0, .string (⟨#[]⟩ : ByteArray), .slice none 0 0]) ?_ 1 _ rfl; (with_reducible repeat (first | refine blk_drewN ?_ _ | refine blk_drew ?_ | refine blk_alloc ?_ _)); refine blk_put (cs := #[.bool false, .int .u64 0, .string (⟨#[]⟩ : ByteArray), .slice none 0 0]) ?_ 0 _ rfl; (with_reducible repeat (first | refine blk_drewN ?_ _ | refine blk_drew ?_ | refine blk_alloc ?_ _)); exact BK129.out) hb); have n4_ := Aside0.mk (below_step (by repeat (first | (with_reducible first | exact HB.out | apply below_alloc | apply pw_below_drewN | apply below_drew1 | refine below_set ?_ GE127.out | refine below_set ?_ GE129.out) | exact HB.out)) hb); clear HO_5; clear BK127; clear BK129; clear HB; have HO_5 := n0_; have HO132 := n1_; have BK127 := n2_; have BK129 := n3_; have HB := n4_; clear n0_ n1_ n2_ n3_ n4_; (try clear hb); (try clear hb2); (try clear hk); (try clear hi); (try clear ho0); skip) | ((with_reducible refine gate_builtin (b := .append) (xs := #[.tmp 14, .tmp 17]) rfl ?_); at_builtin; refine Kd.R_append_rows (Kd.int .u8) (w0 := w) w.heap.size rfl (.tmp 14) (.tmp 17) 23 5 (.int .u8 0) 1 rfl Try.underlying23 info5 rfl (by decide) (by omega) u5 x5_1 t130 _ _ _ (fun _ => True) (fun _ => False) rfl rfl ?aO ?aR (fun _ _ h => h) (fun _ h => h.elim) ?aF ?aB ?aS ?aL ?_; (case aR => repeat (first | exact HO132.out | (with_reducible refine Kd.C_alloc ?_ _) | (with_reducible refine Kd.C_drewN ?_ _) | (with_reducible refine Kd.C_drew ?_))); (case aB => exact (by repeat (first | (with_reducible first | exact HB.out | apply below_alloc | apply pw_below_drewN | apply below_drew1 | refine below_set ?_ GE127.out | refine below_set ?_ GE129.out) | exact HB.out))); (case aF => exact (fun _ _ => trivial)); (case aO => exact (by (with_reducible repeat (first | apply Kd.R_alloc | apply Kd.R_drewN | apply Kd.R_drew)); exact HO_5.out)); (case aS => exact (below_size (by repeat (first | (with_reducible first | exact HB.out | apply below_alloc | apply pw_below_drewN | apply below_drew1 | refine below_set ?_ GE127.out | refine below_set ?_ GE129.out) | exact HB.out)))); (case aL => have := LMc8.out; omega); intro v134 w14 ho hb hg hat; rw [← Ny133.out] at ho; have n0_ := Aside0.mk (blk_grown (g := gb127) (o := .cells #[.int .i64 a0_0, .int .i64 a0_1, .bool a0_2, .int .i64 a0_3, .int .i64 a0_4, .int .i64 a0_5, .string a0_6, .bool a0_7, .slice A0_8 l0_8.length c0_8, .slice A0_9 l0_9.length c0_9] 35 (0, 0)) (by (with_reducible repeat (first | refine blk_drewN ?_ _ | refine blk_drew ?_ | refine blk_alloc ?_ _)); exact BK127.out) hg (Kd.R_ne HO_5.out BK127.out (by decide))); have n1_ := Aside0.mk (blk_grown (g := gb129) (o := .cells #[.bool ((rd_T29 l1 x10_1).f0), .int .u64 ((rd_T29 l1 x10_1).f1), .string ((rd_T29 l1 x10_1).f2), .slice A128_3 ((rd_T29 l1 x10_1).f3).length c128_3] 29 (0, 0)) (by (with_reducible repeat (first | refine blk_drewN ?_ _ | refine blk_drew ?_ | refine blk_alloc ?_ _)); exact BK129.out) hg (Kd.R_ne HO_5.out BK129.out (by decide))); have n2_ := Aside0.mk trivial; have n3_ := Aside0.mk (hb); have n4_ := Aside0.mk (ho); clear BK127; clear BK129; clear HO132; clear HB; clear HO_5; have BK127 := n0_; have BK129 := n1_; have HO132 := n2_; have HB := n3_; have HO135 := n4_; clear n0_ n1_ n2_ n3_ n4_; clear ho hb hg hat))
              go_roundg k1
              case measure => have := HK1.out; omega
              case rel => exact ⟨(y133), (wrap64 (x10_1 + 1)), (by first | rfl | (simp; done) | (simp [*]; done)), H', ⟨by have := HK1.out; omega⟩, ⟨by (with_reducible repeat (first | apply Kd.R_alloc | apply Kd.R_drewN | apply Kd.R_drew)); exact Kd.R_mono HO135.out (fun _ hk => trivial)⟩, ⟨by (with_reducible repeat (first | refine blk_drewN ?_ _ | refine blk_drew ?_ | refine blk_alloc ?_ _)); exact BK127.out⟩, ⟨by repeat (first | (with_reducible first | exact HB.out | apply below_alloc | apply pw_below_drewN | apply below_drew1 | refine below_set ?_ GE127.out | refine below_set ?_ GE129.out) | exact HB.out)⟩⟩
            · rw [if_neg c8] at H
              exact absurd H (by simp)
          · rw [if_neg c6] at H
            exact absurd H (by simp)
        · rw [if_neg c5] at H
          exact absurd H (by simp)
      · rw [if_neg c4] at H
        have c4b0 : decide (x10_1 < (l1.length : Int)) = false := decide_eq_false c4
        clear c4
        obtain rfl := Option.some.inj H
        go_wp2
        go_ret
        exact ⟨_, by first | rfl | (simp [errW_none, errW_some] <;> rfl) | (simp [*, errW_none, errW_some] <;> rfl), by (with_reducible repeat (first | apply Kd.R_alloc | apply Kd.R_drewN | apply Kd.R_drew)); exact HO_5.out, by repeat (first | (with_reducible first | exact HB.out | apply below_alloc | apply pw_below_drewN | apply below_drew1 | refine below_set ?_ GE127.out) | exact HB.out)⟩

end Go.Proofs.Ytcfnniminikmfaa.Q
