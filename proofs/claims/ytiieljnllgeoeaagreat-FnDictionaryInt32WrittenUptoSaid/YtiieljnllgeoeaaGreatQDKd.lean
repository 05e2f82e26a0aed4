-- written by programs of ours (wip/tools) out of the kit's printer: the functions of one law, less those that are shared or proved by hand
import Derived.Test.YtiieljnllgeoeaaGreatPb
import Derived.Test.YtiieljnllgeoeaaGreatQ0
namespace Go.Proofs.YtiieljnllgeoeaaGreat.Q
open Go.RowKit Go.Proofs.YtiieljnllgeoeaaGreatW.PrintWords Go.Proofs.YtiieljnllgeoeaaGreatW.PrintLast Go.Proofs.YtiieljnllgeoeaaGreatW.PrintMore
attribute [local go_sem] max2_int min2_int max_two min_two max_three min_three max_four min_four
set_option linter.unusedVariables false
set_option linter.unusedSimpArgs false

/-! ### spec_Plainly: function 9 -/
def spec_Plainly.l0 : Nat → List Int → List (S29) → Int → Int → Int → Int → Bool → Int → Int → Int → ByteArray → Bool → List Int → List Int → Option (List Int)
 | 0, _, _, _, _, _, _, _, _, _, _, _, _, _, _ => none
 | k + 1, x5, x8, x9, x10, x160000, x160001, x160002, x160003, x160004, x160005, x160006, x160007, x160008, x160009 => if x10 < x9 then (if 0 ≤ x10 then (if x10 < (x8.length : Int) then ((spec_PlainBytes.f x160000 x160001 x160002 x160003 x160004 x160005 x160006 x160007 x160008 x160009 ((rd_T29 x8 x10).f0) ((rd_T29 x8 x10).f1) ((rd_T29 x8 x10).f2) ((rd_T29 x8 x10).f3)).bind fun t162 => (if x5.length + t162.length < 140737488355328 then (spec_Plainly.l0 k (x5 ++ t162) x8 x9 (wrap64 (x10 + 1)) x160000 x160001 x160002 x160003 x160004 x160005 x160006 x160007 x160008 x160009) else (none))) else (none)) else (none)) else (some x5)
def spec_Plainly.f (k : Nat) (a0_0 : Int) (a0_1 : Int) (a0_2 : Bool) (a0_3 : Int) (a0_4 : Int) (a0_5 : Int) (a0_6 : ByteArray) (a0_7 : Bool) (l0_8 : List Int) (l0_9 : List Int) (l1 : List (S29)) : Option (List Int) := spec_Plainly.l0 k ([] : List Int) l1 (l1.length : Int) 0 a0_0 a0_1 a0_2 a0_3 a0_4 a0_5 a0_6 a0_7 l0_8 l0_9
theorem spec_Plainly.mono_l : ∀ k, (∀ y0 y1 y2 y3 y4 y5 y6 y7 y8 y9 y10 y11 y12 y13, LeO (spec_Plainly.l0 k y0 y1 y2 y3 y4 y5 y6 y7 y8 y9 y10 y11 y12 y13) (spec_Plainly.l0 (k + 1) y0 y1 y2 y3 y4 y5 y6 y7 y8 y9 y10 y11 y12 y13))
 | 0 => fun _ _ _ _ _ _ _ _ _ _ _ _ _ _ r h => by simp [spec_Plainly.l0] at h
 | k + 1 => by
  have ih0 := spec_Plainly.mono_l k
  ·intro y0 y1 y2 y3 y4 y5 y6 y7 y8 y9 y10 y11 y12 y13
   unfold spec_Plainly.l0
   repeat' first
   | (with_reducible exact ih0 _ _ _ _ _ _ _ _ _ _ _ _ _ _)
   | (with_reducible exact LeO.refl _)
   | (with_reducible exact LeO.none _)
   | (with_reducible refine LeO.ite ?_ ?_)
   | (with_reducible refine LeO.bind ?_ (fun _ => ?_))
   | exact ih0 _ _ _ _ _ _ _ _ _ _ _ _ _ _
   | exact LeO.none _
   | refine LeO.ite ?_ ?_
   | refine LeO.bind ?_ (fun _ => ?_)
theorem spec_Plainly.mono : ∀ a0 a1 a2 a3 a4 a5 a6 a7 a8 a9 a10 k, LeO (spec_Plainly.f k a0 a1 a2 a3 a4 a5 a6 a7 a8 a9 a10) (spec_Plainly.f (k + 1) a0 a1 a2 a3 a4 a5 a6 a7 a8 a9 a10) := by
 intro a0 a1 a2 a3 a4 a5 a6 a7 a8 a9 a10 k
 have ih0 := spec_Plainly.mono_l k
 unfold spec_Plainly.f
 repeat' first
   | (with_reducible exact ih0 _ _ _ _ _ _ _ _ _ _ _ _ _ _)
   | (with_reducible exact LeO.refl _)
   | (with_reducible exact LeO.none _)
   | (with_reducible refine LeO.ite ?_ ?_)
   | (with_reducible refine LeO.bind ?_ (fun _ => ?_))
   | exact ih0 _ _ _ _ _ _ _ _ _ _ _ _ _ _
   | exact LeO.none _
   | refine LeO.ite ?_ ?_
   | refine LeO.bind ?_ (fun _ => ?_)
set_option maxHeartbeats 8000000 in
set_option maxRecDepth 100000 in
theorem spec_Plainly.calls (k : Nat) (a0_0 : Int) (a0_1 : Int) (a0_2 : Bool) (a0_3 : Int) (a0_4 : Int) (a0_5 : Int) (a0_6 : ByteArray) (a0_7 : Bool) (A0_8 : Option Addr) (c0_8 : Nat) (l0_8 : List Int) (A0_9 : Option Addr) (c0_9 : Nat) (l0_9 : List Int) (A1 : Option Addr) (c1 : Nat) (l1 : List (S29)) (r : List Int) (w : World) (hr0_8 : Kd.C (Kd.int .i64) w A0_8 l0_8.length l0_8) (hc0_8 : l0_8.length ≤ c0_8) (hr0_9 : Kd.C (Kd.int .i64) w A0_9 l0_9.length l0_9) (hc0_9 : l0_9.length ≤ c0_9) (hr1 : Kd.C k29 w A1 l1.length l1) (hc1 : l1.length ≤ c1) (h : spec_Plainly.f k a0_0 a0_1 a0_2 a0_3 a0_4 a0_5 a0_6 a0_7 l0_8 l0_9 l1 = some r) :
  Calls Tryz.prog 9 #[.agg #[.int .i64 a0_0, .int .i64 a0_1, .bool a0_2, .int .i64 a0_3, .int .i64 a0_4, .int .i64 a0_5, .string a0_6, .bool a0_7, .slice A0_8 l0_8.length c0_8, .slice A0_9 l0_9.length c0_9], .slice A1 l1.length c1] w fun e w' => ∃ v0_ : Value, e = .returned (v0_) ∧ Kd.R (Kd.int .u8) 5 w' w.heap.size (fun _ => True) v0_ r ∧ Below w.heap.size w w' := by
 have hu35 := Tryz.underlying35
 have hu29 := Tryz.underlying29
 have HR0_8 := Aside0.mk hr0_8
 have HC0_8 := Aside0.mk hc0_8
 clear hr0_8 hc0_8
 have HR0_9 := Aside0.mk hr0_9
 have HC0_9 := Aside0.mk hc0_9
 clear hr0_9 hc0_9
 have HR1 := Aside0.mk hr1
 have HC1 := Aside0.mk hc1
 clear hr1 hc1
 have HB := Aside0.mk (Below.refl w.heap.size w)
 have H : (spec_Plainly.l0 k ([] : List Int) l1 (l1.length : Int) 0 a0_0 a0_1 a0_2 a0_3 a0_4 a0_5 a0_6 a0_7 l0_8 l0_9) = some r := h
 clear h
 have H' := Aside0.mk H
 clear H
 go_enter Tryz.func9, Tryz.ntmps9
 go_wp2_with (first | ((with_reducible refine gate_dst (N := 2) rfl ?_); refine box_event ?hg (N := 2) ?hd (cs := #[.int .i64 a0_0, .int .i64 a0_1, .bool a0_2, .int .i64 a0_3, .int .i64 a0_4, .int .i64 a0_5, .string a0_6, .bool a0_7, .slice A0_8 l0_8.length c0_8, .slice A0_9 l0_9.length c0_9]) (t := 35) ?hr ?_; (case hd => rfl); (case hg => rfl); (case hr => first | (go_simp; done) | (go_simp; rfl)); intro gb159 hg w3 hbox hb; have n0_ := Aside0.mk (below_step (by repeat (first | (with_reducible first | exact HB.out | apply below_alloc | apply pw_below_drewN | apply below_drew1) | exact HB.out)) hb); have n1_ := Aside0.mk (hbox); have n2_ := Aside0.mk ((by rw [hg]; exact (below_size (by repeat (first | (with_reducible first | exact HB.out | apply below_alloc | apply pw_below_drewN | apply below_drew1) | exact HB.out))) : w.heap.size ≤ gb159)); have n3_ := Aside0.mk ((by rw [hg]; exact (below_size (by repeat (first | (with_reducible first | exact HB.out | apply below_alloc | apply pw_below_drewN | apply below_drew1) | exact HB.out))) : w.heap.size ≤ gb159)); clear HB; have HB := n0_; have BK159 := n1_; have GW159 := n2_; have GE159 := n3_; clear n0_ n1_ n2_ n3_; clear hb hbox hg))
 go_loopg [5, 10] k (fun kq v5 v10 w' => ∃ (x5_1 : List Int) (x10_1 : Int), v10 = .int .i64 x10_1 ∧ Aside0 (spec_Plainly.l0 kq x5_1 l1 (l1.length : Int) x10_1 a0_0 a0_1 a0_2 a0_3 a0_4 a0_5 a0_6 a0_7 l0_8 l0_9 = some r) ∧ Aside0 (kq ≤ k) ∧ Aside0 (Kd.R (Kd.int .u8) 5 w' w.heap.size (fun _ => True) v5 x5_1) ∧ Aside0 (w'.heap[gb159]? = some (.cells #[.int .i64 a0_0, .int .i64 a0_1, .bool a0_2, .int .i64 a0_3, .int .i64 a0_4, .int .i64 a0_5, .string a0_6, .bool a0_7, (.slice A0_8 l0_8.length c0_8), (.slice A0_9 l0_9.length c0_9)] 35 (0, 0))) ∧ Aside0 (Below w.heap.size w w'))
 case atStart => exact ⟨(([] : List Int)), (0), (by first | rfl | (simp; done) | (simp [*]; done)), H', ⟨Nat.le_refl _⟩, ⟨by first | exact Kd.R_nil _ _ _ _ _ | exact Kd.N_nil _ _ _ _ _ | exact Kd.V_nil _ _ _ _ _ | exact Kd.Q_nil _ _ _ _ _ | exact Kd.S_nil _ _ _ _ _⟩, ⟨by (with_reducible repeat (first | refine blk_drewN ?_ _ | refine blk_drew ?_ | refine blk_alloc ?_ _)); exact BK159.out⟩, ⟨by repeat (first | (with_reducible first | exact HB.out | apply below_alloc | apply pw_below_drewN | apply below_drew1 | refine below_set ?_ GE159.out) | exact HB.out)⟩⟩
 case round =>
  clear H'
  try clear c1
  try clear p2
  obtain ⟨x5_1, x10_1, rfl, HA, HK1, HO_5, BK159, HB⟩ := hrel
  cases gk with
  | zero => exact absurd HA.out (by simp [spec_Plainly.l0])
  | succ k1 =>
   have H := HA.out
   clear HA
   simp only [spec_Plainly.l0] at H
   by_cases c4 : x10_1 < (l1.length : Int)
   ·rw [if_pos c4] at H
    have c4b0 : decide (x10_1 < (l1.length : Int)) = true := decide_eq_true c4
    clear c4
    by_cases c5 : 0 ≤ x10_1
    ·rw [if_pos c5] at H
     have c5b0 : decide (0 ≤ x10_1) = true := decide_eq_true c5
     clear c5
     by_cases c6 : x10_1 < (l1.length : Int)
     ·rw [if_pos c6] at H
      have c6b0 : decide (x10_1 < (l1.length : Int)) = true := decide_eq_true c6
      clear c6
      replace H := Option.bind_eq_some_iff.mp H
      obtain ⟨t162, A70, H⟩ := H
      replace H : (if x5_1.length + t162.length < 140737488355328 then (spec_Plainly.l0 k1 (x5_1 ++ t162) l1 (l1.length : Int) (wrap64 (x10_1 + 1)) a0_0 a0_1 a0_2 a0_3 a0_4 a0_5 a0_6 a0_7 l0_8 l0_9) else (none)) = some r := H
      have A7 := Aside0.mk A70
      clear A70
      by_cases c8 : x5_1.length + t162.length < 140737488355328
      ·rw [if_pos c8] at H
       have LMc8 := Aside0.mk c8
       clear c8
       obtain ⟨y165, hy165⟩ : ∃ y_ : List Int, y_ = (x5_1 ++ t162) := ⟨_, rfl⟩
       replace H : (spec_Plainly.l0 k1 y165 l1 (l1.length : Int) (wrap64 (x10_1 + 1)) a0_0 a0_1 a0_2 a0_3 a0_4 a0_5 a0_6 a0_7 l0_8 l0_9) = some r := by first | (rw [hy165]; with_reducible exact H) | (have H2_ := (Option.bind_some _ _).symm.trans H; rw [hy165]; with_reducible exact H2_) | (have H2_ := (Option.bind_some _ _).symm.trans H; with_reducible exact H2_) | with_reducible exact H | (rw [hy165]; exact H) | exact H
       have Ny165 := Aside0.mk hy165
       clear hy165
       have H' := Aside0.mk H
       clear H
       have p160 : 0 ≤ (x10_1 : Int) := of_decide_eq_true (by first | (with_reducible assumption) | assumption)
       have q160 : x10_1 < (l1.length : Int) := of_decide_eq_true (by first | (with_reducible assumption) | assumption)
       obtain ⟨ad160, A160_3, c160_3, e160, hx160_0, hx160_1, hx160_2, hx160_3, hl160_3, hi160_3⟩ := at_T29 HR1.out x10_1 p160 q160
       cases e160
       replace hx160_0 := (HB.out.cell (World.block_lt_of_cell? w _ hx160_0)).trans hx160_0
       replace hx160_1 := (HB.out.cell (World.block_lt_of_cell? w _ hx160_1)).trans hx160_1
       replace hx160_2 := (HB.out.cell (World.block_lt_of_cell? w _ hx160_2)).trans hx160_2
       replace hx160_3 := (HB.out.cell (World.block_lt_of_cell? w _ hx160_3)).trans hx160_3
       have HR160_3 := Aside0.mk hi160_3
       have HC160_3 := Aside0.mk hl160_3
       clear hi160_3 hl160_3
       replace p160 := eq_true p160
       replace q160 := eq_true q160
       go_wp2_with (first | ((with_reducible refine gate_dst (N := 7) rfl ?_); refine box_event ?hg (N := 7) ?hd (cs := #[.bool false, .int .u64 0, .string (⟨#[]⟩ : ByteArray), .slice none 0 0]) (t := 29) ?hr ?_; (case hd => rfl); (case hg => rfl); (case hr => first | (go_simp; done) | (go_simp; rfl)); intro gb161 hg w9 hbox hb; have n0_ := Aside0.mk (Kd.R_below (by (with_reducible repeat (first | apply Kd.R_alloc | apply Kd.R_drewN | apply Kd.R_drew)); exact HO_5.out) hb); have n1_ := Aside0.mk (blk_below (g := gb159) (o := .cells #[.int .i64 a0_0, .int .i64 a0_1, .bool a0_2, .int .i64 a0_3, .int .i64 a0_4, .int .i64 a0_5, .string a0_6, .bool a0_7, .slice A0_8 l0_8.length c0_8, .slice A0_9 l0_9.length c0_9] 35 (0, 0)) (by (with_reducible repeat (first | refine blk_drewN ?_ _ | refine blk_drew ?_ | refine blk_alloc ?_ _)); exact BK159.out) hb); have n2_ := Aside0.mk (below_step (by repeat (first | (with_reducible first | exact HB.out | apply below_alloc | apply pw_below_drewN | apply below_drew1 | refine below_set ?_ GE159.out) | exact HB.out)) hb); have n3_ := Aside0.mk (hbox); have n4_ := Aside0.mk ((by rw [hg]; exact (below_size (by repeat (first | (with_reducible first | exact HB.out | apply below_alloc | apply pw_below_drewN | apply below_drew1 | refine below_set ?_ GE159.out) | exact HB.out))) : w.heap.size ≤ gb161)); have n5_ := Aside0.mk ((by rw [hg]; exact (below_size (by repeat (first | (with_reducible first | exact HB.out | apply below_alloc | apply pw_below_drewN | apply below_drew1 | refine below_set ?_ GE159.out) | exact HB.out))) : w.heap.size ≤ gb161)); have n6_ := Aside0.mk ((by rw [hg]; exact Nat.ne_of_lt (blk_lt (g := gb159) (o := .cells #[.int .i64 a0_0, .int .i64 a0_1, .bool a0_2, .int .i64 a0_3, .int .i64 a0_4, .int .i64 a0_5, .string a0_6, .bool a0_7, .slice A0_8 l0_8.length c0_8, .slice A0_9 l0_9.length c0_9] 35 (0, 0)) (by (with_reducible repeat (first | refine blk_drewN ?_ _ | refine blk_drew ?_ | refine blk_alloc ?_ _)); exact BK159.out)) : gb159 ≠ gb161)); have n7_ := Aside0.mk ((by rw [hg]; exact Nat.ne_of_gt (blk_lt (g := gb159) (o := .cells #[.int .i64 a0_0, .int .i64 a0_1, .bool a0_2, .int .i64 a0_3, .int .i64 a0_4, .int .i64 a0_5, .string a0_6, .bool a0_7, .slice A0_8 l0_8.length c0_8, .slice A0_9 l0_9.length c0_9] 35 (0, 0)) (by (with_reducible repeat (first | refine blk_drewN ?_ _ | refine blk_drew ?_ | refine blk_alloc ?_ _)); exact BK159.out)) : gb161 ≠ gb159)); clear HO_5; clear BK159; clear HB; have HO_5 := n0_; have BK159 := n1_; have HB := n2_; have BK161 := n3_; have GW161 := n4_; have GE161 := n5_; have NB159_161 := n6_; have NB161_159 := n7_; clear n0_ n1_ n2_ n3_ n4_ n5_ n6_ n7_; clear hb hbox hg; have hnb10 := NB161_159.out; have hnc10 := NB159_161.out; have hcz11_0 : w9.cell? ⟨gb161, 0, none⟩ = some (.bool false) := (blk_cell BK161.out 0).trans rfl; have hcz11_1 : w9.cell? ⟨gb161, 1, none⟩ = some (.int .u64 0) := (blk_cell BK161.out 1).trans rfl; have hcz11_2 : w9.cell? ⟨gb161, 2, none⟩ = some (.string (⟨#[]⟩ : ByteArray)) := (blk_cell BK161.out 2).trans rfl; have hcz11_3 : w9.cell? ⟨gb161, 3, none⟩ = some (.slice none 0 0) := (blk_cell BK161.out 3).trans rfl; have hfz11_0 := blk_frozen BK161.out 0; have hfz11_1 := blk_frozen BK161.out 1; have hfz11_2 := blk_frozen BK161.out 2; have hfz11_3 := blk_frozen BK161.out 3; have hcz12_0 : w9.cell? ⟨gb159, 0, none⟩ = some (.int .i64 a0_0) := (blk_cell BK159.out 0).trans rfl; have hcz12_1 : w9.cell? ⟨gb159, 1, none⟩ = some (.int .i64 a0_1) := (blk_cell BK159.out 1).trans rfl; have hcz12_2 : w9.cell? ⟨gb159, 2, none⟩ = some (.bool a0_2) := (blk_cell BK159.out 2).trans rfl; have hcz12_3 : w9.cell? ⟨gb159, 3, none⟩ = some (.int .i64 a0_3) := (blk_cell BK159.out 3).trans rfl; have hcz12_4 : w9.cell? ⟨gb159, 4, none⟩ = some (.int .i64 a0_4) := (blk_cell BK159.out 4).trans rfl; have hcz12_5 : w9.cell? ⟨gb159, 5, none⟩ = some (.int .i64 a0_5) := (blk_cell BK159.out 5).trans rfl; have hcz12_6 : w9.cell? ⟨gb159, 6, none⟩ = some (.string a0_6) := (blk_cell BK159.out 6).trans rfl; have hcz12_7 : w9.cell? ⟨gb159, 7, none⟩ = some (.bool a0_7) := (blk_cell BK159.out 7).trans rfl; have hcz12_8 : w9.cell? ⟨gb159, 8, none⟩ = some (.slice A0_8 l0_8.length c0_8) := (blk_cell BK159.out 8).trans rfl; have hcz12_9 : w9.cell? ⟨gb159, 9, none⟩ = some (.slice A0_9 l0_9.length c0_9) := (blk_cell BK159.out 9).trans rfl; have hfz12_0 := blk_frozen BK159.out 0; have hfz12_1 := blk_frozen BK159.out 1; have hfz12_2 := blk_frozen BK159.out 2; have hfz12_3 := blk_frozen BK159.out 3; have hfz12_4 := blk_frozen BK159.out 4; have hfz12_5 := blk_frozen BK159.out 5; have hfz12_6 := blk_frozen BK159.out 6; have hfz12_7 := blk_frozen BK159.out 7; have hfz12_8 := blk_frozen BK159.out 8; have hfz12_9 := blk_frozen BK159.out 9) | ((with_reducible refine gate_callee (f := 25) rfl ?_); refine goesL_ (some 17) rfl rfl Tryz.func25 (by kernel_rfl) rfl #[.agg #[.int .i64 a0_0, .int .i64 a0_1, .bool a0_2, .int .i64 a0_3, .int .i64 a0_4, .int .i64 a0_5, .string a0_6, .bool a0_7, .slice A0_8 l0_8.length c0_8, .slice A0_9 l0_9.length c0_9], .agg #[.bool ((rd_T29 l1 x10_1).f0), .int .u64 ((rd_T29 l1 x10_1).f1), .string ((rd_T29 l1 x10_1).f2), .slice A160_3 ((rd_T29 l1 x10_1).f3).length c160_3]] rfl (by (try simp only [List.map_toArray, List.map_cons, List.map_nil]); first | done | rfl | (simp only [List.length_drop, List.length_take]; rfl)) ?_; (with_reducible refine (spec_PlainBytes.calls a0_0 a0_1 a0_2 a0_3 a0_4 a0_5 a0_6 a0_7 _ _ l0_8 _ _ l0_9 ((rd_T29 l1 x10_1).f0) ((rd_T29 l1 x10_1).f1) ((rd_T29 l1 x10_1).f2) _ _ ((rd_T29 l1 x10_1).f3) t162 _ ?side1 ?side2 ?side3 ?side4 ?side5 ?side6 A7.out).mono ?_); (case side1 => exact Kd.C_below HR0_8.out (by repeat (first | (with_reducible first | exact HB.out | apply below_alloc | apply pw_below_drewN | apply below_drew1 | refine below_set ?_ GE159.out | refine below_set ?_ GE161.out) | exact HB.out))); (case side2 => exact HC0_8.out); (case side3 => exact Kd.C_below HR0_9.out (by repeat (first | (with_reducible first | exact HB.out | apply below_alloc | apply pw_below_drewN | apply below_drew1 | refine below_set ?_ GE159.out | refine below_set ?_ GE161.out) | exact HB.out))); (case side4 => exact HC0_9.out); (case side5 => exact Kd.C_below HR160_3.out (by repeat (first | (with_reducible first | exact HB.out | apply below_alloc | apply pw_below_drewN | apply below_drew1 | refine below_set ?_ GE159.out | refine below_set ?_ GE161.out) | exact HB.out))); (case side6 => exact HC160_3.out); rintro e w13 ⟨v163, rfl, ho0, hb⟩; refine ⟨_, rfl, ?_⟩; have n0_ := Aside0.mk (Kd.R_elder' (by (with_reducible repeat (first | apply Kd.R_alloc | apply Kd.R_drewN | apply Kd.R_drew)); exact (Kd.R_mono (Kd.R_far (p := ⟨gb161, 3, none⟩) (Kd.R_far (p := ⟨gb161, 2, none⟩) (Kd.R_far (p := ⟨gb161, 1, none⟩) (Kd.R_far (p := ⟨gb161, 0, none⟩) (Kd.R_types HO_5.out BK161.out (by decide)) (fun _ hk => hk.2) (.bool ((rd_T29 l1 x10_1).f0))) (fun _ hk => hk.2) (.int .u64 ((rd_T29 l1 x10_1).f1))) (fun _ hk => hk.2) (.string ((rd_T29 l1 x10_1).f2))) (fun _ hk => hk.2) (.slice A160_3 ((rd_T29 l1 x10_1).f3).length c160_3)) (fun _ h_ => h_.1))) (Kd.R_base ho0) hb); have n1_ := Aside0.mk (Kd.R_lower (Kd.R_new' ho0 (Kd.R_lt (by (with_reducible repeat (first | apply Kd.R_alloc | apply Kd.R_drewN | apply Kd.R_drew)); exact (Kd.R_mono (Kd.R_far (p := ⟨gb161, 3, none⟩) (Kd.R_far (p := ⟨gb161, 2, none⟩) (Kd.R_far (p := ⟨gb161, 1, none⟩) (Kd.R_far (p := ⟨gb161, 0, none⟩) (Kd.R_types HO_5.out BK161.out (by decide)) (fun _ hk => hk.2) (.bool ((rd_T29 l1 x10_1).f0))) (fun _ hk => hk.2) (.int .u64 ((rd_T29 l1 x10_1).f1))) (fun _ hk => hk.2) (.string ((rd_T29 l1 x10_1).f2))) (fun _ hk => hk.2) (.slice A160_3 ((rd_T29 l1 x10_1).f3).length c160_3)) (fun _ h_ => h_.1))))) (below_size (by repeat (first | (with_reducible first | exact HB.out | apply below_alloc | apply pw_below_drewN | apply below_drew1 | refine below_set ?_ GE159.out | refine below_set ?_ GE161.out) | exact HB.out)))); have n2_ := Aside0.mk (blk_below (g := gb159) (o := .cells #[.int .i64 a0_0, .int .i64 a0_1, .bool a0_2, .int .i64 a0_3, .int .i64 a0_4, .int .i64 a0_5, .string a0_6, .bool a0_7, .slice A0_8 l0_8.length c0_8, .slice A0_9 l0_9.length c0_9] 35 (0, 0)) (by (with_reducible repeat (first | refine blk_drewN ?_ _ | refine blk_drew ?_ | refine blk_alloc ?_ _)); refine blk_far ?_ NB159_161.out _; (with_reducible repeat (first | refine blk_drewN ?_ _ | refine blk_drew ?_ | refine blk_alloc ?_ _)); refine blk_far ?_ NB159_161.out _; (with_reducible repeat (first | refine blk_drewN ?_ _ | refine blk_drew ?_ | refine blk_alloc ?_ _)); refine blk_far ?_ NB159_161.out _; (with_reducible repeat (first | refine blk_drewN ?_ _ | refine blk_drew ?_ | refine blk_alloc ?_ _)); refine blk_far ?_ NB159_161.out _; (with_reducible repeat (first | refine blk_drewN ?_ _ | refine blk_drew ?_ | refine blk_alloc ?_ _)); exact BK159.out) hb); have n3_ := Aside0.mk (blk_below (g := gb161) (o := .cells #[.bool ((rd_T29 l1 x10_1).f0), .int .u64 ((rd_T29 l1 x10_1).f1), .string ((rd_T29 l1 x10_1).f2), .slice A160_3 ((rd_T29 l1 x10_1).f3).length c160_3] 29 (0, 0)) (by (with_reducible repeat (first | refine blk_drewN ?_ _ | refine blk_drew ?_ | refine blk_alloc ?_ _)); refine blk_put (cs := #[.bool ((rd_T29 l1 x10_1).f0), .int .u64 ((rd_T29 l1 x10_1).f1), .string ((rd_T29 l1 x10_1).f2), .slice none 0 0]) ?_ 3 _ rfl; (with_reducible repeat (first | refine blk_drewN ?_ _ | refine blk_drew ?_ | refine blk_alloc ?_ _)); refine blk_put (cs := #[.bool ((rd_T29 l1 x10_1).f0), .int .u64 ((rd_T29 l1 x10_1).f1), .string (⟨#[]⟩ : ByteArray), .slice none 0 0]) ?_ 2 _ rfl; (with_reducible repeat (first | refine blk_drewN ?_ _ | refine blk_drew ?_ | refine blk_alloc ?_ _)); refine blk_put (cs := #[.bool ((rd_T29 l1 x10_1).f0), .int .u64 0, .string (⟨#[]⟩ : ByteArray), .slice none 0 0]) ?_ 1 _ rfl; (with_reducible repeat (first | refine blk_drewN ?_ _ | refine blk_drew ?_ | refine blk_alloc ?_ _)); refine blk_put (cs := #[.bool false, .int .u64 0, .string (⟨#[]⟩ : ByteArray), .slice none 0 0]) ?_ 0 _ rfl; (with_reducible repeat (first | refine blk_drewN ?_ _ | refine blk_drew ?_ | refine blk_alloc ?_ _)); exact BK161.out) hb); have n4_ := Aside0.mk (below_step (by repeat (first | (with_reducible first | exact HB.out | apply below_alloc | apply pw_below_drewN | apply below_drew1 | refine below_set ?_ GE159.out | refine below_set ?_ GE161.out) | exact HB.out)) hb); clear HO_5; clear BK159; clear BK161; clear HB; have HO_5 := n0_; have HO164 := n1_; have BK159 := n2_; have BK161 := n3_; have HB := n4_; clear n0_ n1_ n2_ n3_ n4_; (try clear hb); (try clear hb2); (try clear hk); (try clear hi); (try clear ho0); obtain ⟨Ao15, co15, eo15⟩ := Kd.R_slice HO164.out; subst eo15) | ((with_reducible refine gate_builtin (b := .append) (xs := #[.tmp 14, .tmp 17]) rfl ?_); at_builtin; refine Kd.R_append_rows (Kd.int .u8) (w0 := w) w.heap.size rfl (.tmp 14) (.tmp 17) 23 5 (.int .u8 0) 1 rfl Tryz.underlying23 info5 rfl (by decide) (by omega) u5 x5_1 t162 _ _ _ (fun k_ => some k_ ≠ (.slice Ao15 t162.length co15 : Value).ownBlock) (fun _ => False) rfl rfl ?aO ?aR (fun _ _ h => h) (fun _ h => h.elim) ?aF ?aB ?aS ?aL ?_; (case aR => repeat (first | exact (Kd.R_reads' HO164.out).2.2 | (with_reducible refine Kd.C_alloc ?_ _) | (with_reducible refine Kd.C_drewN ?_ _) | (with_reducible refine Kd.C_drew ?_))); (case aB => exact (by repeat (first | (with_reducible first | exact HB.out | apply below_alloc | apply pw_below_drewN | apply below_drew1 | refine below_set ?_ GE159.out | refine below_set ?_ GE161.out) | exact HB.out))); (case aF => exact (fun k_ hk => Kd.fresh' (Kd.R_lt (by (with_reducible repeat (first | apply Kd.R_alloc | apply Kd.R_drewN | apply Kd.R_drew)); exact HO164.out)) k_ hk)); (case aO => exact (by (with_reducible repeat (first | apply Kd.R_alloc | apply Kd.R_drewN | apply Kd.R_drew)); exact Kd.R_mono HO_5.out (fun _ hk => hk.2))); (case aS => exact (below_size (by repeat (first | (with_reducible first | exact HB.out | apply below_alloc | apply pw_below_drewN | apply below_drew1 | refine below_set ?_ GE159.out | refine below_set ?_ GE161.out) | exact HB.out)))); (case aL => have := LMc8.out; omega); intro v166 w14 ho hb hg hat; rw [← Ny165.out] at ho; have n0_ := Aside0.mk (blk_grown (g := gb159) (o := .cells #[.int .i64 a0_0, .int .i64 a0_1, .bool a0_2, .int .i64 a0_3, .int .i64 a0_4, .int .i64 a0_5, .string a0_6, .bool a0_7, .slice A0_8 l0_8.length c0_8, .slice A0_9 l0_9.length c0_9] 35 (0, 0)) (by (with_reducible repeat (first | refine blk_drewN ?_ _ | refine blk_drew ?_ | refine blk_alloc ?_ _)); exact BK159.out) hg (Kd.R_ne HO_5.out BK159.out (by decide))); have n1_ := Aside0.mk (blk_grown (g := gb161) (o := .cells #[.bool ((rd_T29 l1 x10_1).f0), .int .u64 ((rd_T29 l1 x10_1).f1), .string ((rd_T29 l1 x10_1).f2), .slice A160_3 ((rd_T29 l1 x10_1).f3).length c160_3] 29 (0, 0)) (by (with_reducible repeat (first | refine blk_drewN ?_ _ | refine blk_drew ?_ | refine blk_alloc ?_ _)); exact BK161.out) hg (Kd.R_ne HO_5.out BK161.out (by decide))); have n2_ := Aside0.mk (Kd.R_after (ok := (fun _ => True)) (by (with_reducible repeat (first | apply Kd.R_alloc | apply Kd.R_drewN | apply Kd.R_drew)); exact HO164.out) hg hat); have n3_ := Aside0.mk (hb); have n4_ := Aside0.mk (ho); clear BK159; clear BK161; clear HO164; clear HB; clear HO_5; have BK159 := n0_; have BK161 := n1_; have HO164 := n2_; have HB := n3_; have HO167 := n4_; clear n0_ n1_ n2_ n3_ n4_; clear ho hb hg hat))
       go_roundg k1
       case measure => have := HK1.out; omega
       case rel => exact ⟨(y165), (wrap64 (x10_1 + 1)), (by first | rfl | (simp; done) | (simp [*]; done)), H', ⟨by have := HK1.out; omega⟩, ⟨by (with_reducible repeat (first | apply Kd.R_alloc | apply Kd.R_drewN | apply Kd.R_drew)); exact Kd.R_mono HO167.out (fun _ hk => trivial)⟩, ⟨by (with_reducible repeat (first | refine blk_drewN ?_ _ | refine blk_drew ?_ | refine blk_alloc ?_ _)); exact BK159.out⟩, ⟨by repeat (first | (with_reducible first | exact HB.out | apply below_alloc | apply pw_below_drewN | apply below_drew1 | refine below_set ?_ GE159.out | refine below_set ?_ GE161.out) | exact HB.out)⟩⟩
      ·rw [if_neg c8] at H
       exact absurd H (by simp)
     ·rw [if_neg c6] at H
      exact absurd H (by simp)
    ·rw [if_neg c5] at H
     exact absurd H (by simp)
   ·rw [if_neg c4] at H
    have c4b0 : decide (x10_1 < (l1.length : Int)) = false := decide_eq_false c4
    clear c4
    obtain rfl := Option.some.inj H
    go_wp2
    go_ret
    exact ⟨_, by first | rfl | (simp [errW_none, errW_some] <;> rfl) | (simp [*, errW_none, errW_some] <;> rfl), by (with_reducible repeat (first | apply Kd.R_alloc | apply Kd.R_drewN | apply Kd.R_drew)); exact HO_5.out, by repeat (first | (with_reducible first | exact HB.out | apply below_alloc | apply pw_below_drewN | apply below_drew1 | refine below_set ?_ GE159.out) | exact HB.out)⟩

/-! ### spec_WidthOf: function 10 -/
def spec_WidthOf.l0 : Nat → Int → Int → Option (Int)
 | 0, _, _ => none
 | k + 1, x0, x3 => if 0 ≤ x3 then (if (shr .i64 x0 x3) > 0 then (spec_WidthOf.l0 k x0 (wrap64 (x3 + 1))) else (some x3)) else (none)
def spec_WidthOf.f (k : Nat) (a0 : Int) : Option (Int) := spec_WidthOf.l0 k a0 0
theorem spec_WidthOf.mono_l : ∀ k, (∀ y0 y1, LeO (spec_WidthOf.l0 k y0 y1) (spec_WidthOf.l0 (k + 1) y0 y1))
 | 0 => fun _ _ r h => by simp [spec_WidthOf.l0] at h
 | k + 1 => by
  have ih0 := spec_WidthOf.mono_l k
  ·intro y0 y1
   unfold spec_WidthOf.l0
   repeat' first
   | (with_reducible exact ih0 _ _)
   | (with_reducible exact LeO.refl _)
   | (with_reducible exact LeO.none _)
   | (with_reducible refine LeO.ite ?_ ?_)
   | (with_reducible refine LeO.bind ?_ (fun _ => ?_))
   | exact ih0 _ _
   | exact LeO.none _
   | refine LeO.ite ?_ ?_
   | refine LeO.bind ?_ (fun _ => ?_)
theorem spec_WidthOf.mono : ∀ a0 k, LeO (spec_WidthOf.f k a0) (spec_WidthOf.f (k + 1) a0) := by
 intro a0 k
 have ih0 := spec_WidthOf.mono_l k
 unfold spec_WidthOf.f
 repeat' first
   | (with_reducible exact ih0 _ _)
   | (with_reducible exact LeO.refl _)
   | (with_reducible exact LeO.none _)
   | (with_reducible refine LeO.ite ?_ ?_)
   | (with_reducible refine LeO.bind ?_ (fun _ => ?_))
   | exact ih0 _ _
   | exact LeO.none _
   | refine LeO.ite ?_ ?_
   | refine LeO.bind ?_ (fun _ => ?_)
set_option maxHeartbeats 8000000 in
set_option maxRecDepth 100000 in
theorem spec_WidthOf.calls (k : Nat) (a0 : Int) (r : Int) (w : World) (h : spec_WidthOf.f k a0 = some r) :
  Calls Tryz.prog 10 #[.int .i64 a0] w fun e w' => e = .returned (.int .i64 r) ∧ Drawn0 w w' := by
 have H : (spec_WidthOf.l0 k a0 0) = some r := h
 clear h
 have H' := Aside0.mk H
 clear H
 go_enter Tryz.func10, Tryz.ntmps10
 go_wp2
 go_loopg [3] k (fun kq v3 w' => ∃ (x3_1 : Int), v3 = .int .i64 x3_1 ∧ Aside0 (spec_WidthOf.l0 kq a0 x3_1 = some r) ∧ Aside0 (kq ≤ k) ∧ Drawn0 w w')
 case atStart => exact ⟨(0), (by first | rfl | (simp; done) | (simp [*]; done)), H', ⟨Nat.le_refl _⟩, by repeat (first | exact Drawn0.refl _ | apply Drawn0.step)⟩
 case round =>
  clear H'
  try clear c1
  obtain ⟨x3_1, rfl, HA, HK1, ⟨m1, rfl⟩⟩ := hrel
  cases gk with
  | zero => exact absurd HA.out (by simp [spec_WidthOf.l0])
  | succ k1 =>
   have H := HA.out
   clear HA
   simp only [spec_WidthOf.l0] at H
   by_cases c2 : 0 ≤ x3_1
   ·rw [if_pos c2] at H
    have c2b0 := eq_true c2
    have c2b1 : decide (0 ≤ x3_1) = true := decide_eq_true c2
    clear c2
    obtain ⟨ji3, hji3⟩ : ∃ j_ : Int, (shr .i64 a0 x3_1) = j_ := ⟨_, rfl⟩
    replace H : (if (ji3) > 0 then (spec_WidthOf.l0 k1 a0 (wrap64 (x3_1 + 1))) else (some x3_1)) = some r := by first | (rw [hji3] at H; exact H) | (simp only [hji3] at H ⊢; exact H)
    have hji3_ : (a0 / 2 ^ min x3_1.toNat 64) = ji3 := hji3
    have hji3z : x3_1 ≤ 64 → (a0 / 2 ^ x3_1.toNat) = ji3 := shr_small hji3
    by_cases c4 : (ji3) > 0
    ·rw [if_pos c4] at H
     have c4b0 : decide (0 < (ji3)) = true := decide_eq_true c4
     clear c4
     have H' := Aside0.mk H
     clear H
     go_wp2
     go_roundg k1
     case measure => have := HK1.out; omega
     case rel => exact ⟨(wrap64 (x3_1 + 1)), (by first | rfl | (simp; done) | (simp [*]; done)), H', ⟨by have := HK1.out; omega⟩, by repeat (first | exact Drawn0.refl _ | apply Drawn0.step)⟩
    ·rw [if_neg c4] at H
     have c4b0 : decide (0 < (ji3)) = false := decide_eq_false c4
     clear c4
     obtain rfl := Option.some.inj H
     go_wp2
     go_ret
     exact ⟨by first | rfl | (simp; done) | (simp only [← hji3] <;> (first | rfl | simp)) | (simp [*]; done), by repeat (first | exact Drawn0.refl _ | apply Drawn0.step)⟩
   ·rw [if_neg c2] at H
    exact absurd H (by simp)

/-! ### spec_TakeVLQ: function 26 -/
mutual
def spec_TakeVLQ.l0 : Nat → List Int → Int → Int → Int → Option (Int × Int × Bool)
 | 0, _, _, _, _ => none
 | k + 1, x0, x1, x4, x7 => if x1 < (x0.length : Int) then (spec_TakeVLQ.j1 k x0 x1 x4 x7 (decide (x7 < 70))) else (spec_TakeVLQ.j1 k x0 x1 x4 x7 false)
def spec_TakeVLQ.j1 : Nat → List Int → Int → Int → Int → Bool → Option (Int × Int × Bool)
 | 0, _, _, _, _, _ => none
 | k + 1, x0, x1, x4, x7, x16 => if x16 = true then (if 0 ≤ x1 then (if x1 < (x0.length : Int) then (if x7 = 63 then (spec_TakeVLQ.j2 k x0 (wrap64 (x1 + 1)) x4 x7 (rd x0 x1) (decide ((rd x0 x1) > 1))) else (spec_TakeVLQ.j2 k x0 (wrap64 (x1 + 1)) x4 x7 (rd x0 x1) false)) else (none)) else (none)) else (some (0, x1, false))
def spec_TakeVLQ.j2 : Nat → List Int → Int → Int → Int → Int → Bool → Option (Int × Int × Bool)
 | 0, _, _, _, _, _, _ => none
 | k + 1, x0, x1, x4, x7, x8, x30 => if x30 = true then (some (0, x1, false)) else (if 0 ≤ x7 then (if x8 < 128 then (some (Go.bits .or .u64 x4 (shl .u64 (IntKind.u64.wrap (Go.bits .and .u8 x8 127)) x7), x1, true)) else (spec_TakeVLQ.l0 k x0 x1 (Go.bits .or .u64 x4 (shl .u64 (IntKind.u64.wrap (Go.bits .and .u8 x8 127)) x7)) (wrap64 (x7 + 7)))) else (none))
end
def spec_TakeVLQ.f (k : Nat) (l0 : List Int) (a1 : Int) : Option (Int × Int × Bool) := spec_TakeVLQ.l0 k l0 a1 0 0
theorem spec_TakeVLQ.mono_l : ∀ k, (∀ y0 y1 y2 y3, LeO (spec_TakeVLQ.l0 k y0 y1 y2 y3) (spec_TakeVLQ.l0 (k + 1) y0 y1 y2 y3)) ∧ (∀ y0 y1 y2 y3 y4, LeO (spec_TakeVLQ.j1 k y0 y1 y2 y3 y4) (spec_TakeVLQ.j1 (k + 1) y0 y1 y2 y3 y4)) ∧ (∀ y0 y1 y2 y3 y4 y5, LeO (spec_TakeVLQ.j2 k y0 y1 y2 y3 y4 y5) (spec_TakeVLQ.j2 (k + 1) y0 y1 y2 y3 y4 y5))
 | 0 => ⟨fun _ _ _ _ r h => by simp [spec_TakeVLQ.l0] at h, fun _ _ _ _ _ r h => by simp [spec_TakeVLQ.j1] at h, fun _ _ _ _ _ _ r h => by simp [spec_TakeVLQ.j2] at h⟩
 | k + 1 => by
  obtain ⟨ih0, ih1, ih2⟩ := spec_TakeVLQ.mono_l k
  refine ⟨?_, ?_, ?_⟩
  ·intro y0 y1 y2 y3
   unfold spec_TakeVLQ.l0
   repeat' first
   | (with_reducible exact ih0 _ _ _ _)
   | (with_reducible exact ih1 _ _ _ _ _)
   | (with_reducible exact ih2 _ _ _ _ _ _)
   | (with_reducible exact LeO.refl _)
   | (with_reducible exact LeO.none _)
   | (with_reducible refine LeO.ite ?_ ?_)
   | (with_reducible refine LeO.bind ?_ (fun _ => ?_))
   | exact ih0 _ _ _ _
   | exact ih1 _ _ _ _ _
   | exact ih2 _ _ _ _ _ _
   | exact LeO.none _
   | refine LeO.ite ?_ ?_
   | refine LeO.bind ?_ (fun _ => ?_)
  ·intro y0 y1 y2 y3 y4
   unfold spec_TakeVLQ.j1
   repeat' first
   | (with_reducible exact ih0 _ _ _ _)
   | (with_reducible exact ih1 _ _ _ _ _)
   | (with_reducible exact ih2 _ _ _ _ _ _)
   | (with_reducible exact LeO.refl _)
   | (with_reducible exact LeO.none _)
   | (with_reducible refine LeO.ite ?_ ?_)
   | (with_reducible refine LeO.bind ?_ (fun _ => ?_))
   | exact ih0 _ _ _ _
   | exact ih1 _ _ _ _ _
   | exact ih2 _ _ _ _ _ _
   | exact LeO.none _
   | refine LeO.ite ?_ ?_
   | refine LeO.bind ?_ (fun _ => ?_)
  ·intro y0 y1 y2 y3 y4 y5
   unfold spec_TakeVLQ.j2
   repeat' first
   | (with_reducible exact ih0 _ _ _ _)
   | (with_reducible exact ih1 _ _ _ _ _)
   | (with_reducible exact ih2 _ _ _ _ _ _)
   | (with_reducible exact LeO.refl _)
   | (with_reducible exact LeO.none _)
   | (with_reducible refine LeO.ite ?_ ?_)
   | (with_reducible refine LeO.bind ?_ (fun _ => ?_))
   | exact ih0 _ _ _ _
   | exact ih1 _ _ _ _ _
   | exact ih2 _ _ _ _ _ _
   | exact LeO.none _
   | refine LeO.ite ?_ ?_
   | refine LeO.bind ?_ (fun _ => ?_)
theorem spec_TakeVLQ.mono : ∀ a0 a1 k, LeO (spec_TakeVLQ.f k a0 a1) (spec_TakeVLQ.f (k + 1) a0 a1) := by
 intro a0 a1 k
 obtain ⟨ih0, ih1, ih2⟩ := spec_TakeVLQ.mono_l k
 unfold spec_TakeVLQ.f
 repeat' first
   | (with_reducible exact ih0 _ _ _ _)
   | (with_reducible exact ih1 _ _ _ _ _)
   | (with_reducible exact ih2 _ _ _ _ _ _)
   | (with_reducible exact LeO.refl _)
   | (with_reducible exact LeO.none _)
   | (with_reducible refine LeO.ite ?_ ?_)
   | (with_reducible refine LeO.bind ?_ (fun _ => ?_))
   | exact ih0 _ _ _ _
   | exact ih1 _ _ _ _ _
   | exact ih2 _ _ _ _ _ _
   | exact LeO.none _
   | refine LeO.ite ?_ ?_
   | refine LeO.bind ?_ (fun _ => ?_)
set_option maxHeartbeats 8000000 in
set_option maxRecDepth 100000 in
theorem spec_TakeVLQ.calls (k : Nat) (A0 : Option Addr) (c0 : Nat) (l0 : List Int) (a1 : Int) (r1 : Int) (r2 : Int) (r3 : Bool) (w : World) (hr0 : Kd.C (Kd.int .u8) w A0 l0.length l0) (hc0 : l0.length ≤ c0) (h : spec_TakeVLQ.f k l0 a1 = some (r1, r2, r3)) :
  Calls Tryz.prog 26 #[.slice A0 l0.length c0, .int .i64 a1] w fun e w' => e = .returned (.tuple #[.int .u64 r1, .int .i64 r2, .bool r3]) ∧ Drawn0 w w' := by
 have HR0 := Aside0.mk hr0
 have HC0 := Aside0.mk hc0
 clear hr0 hc0
 have H : (spec_TakeVLQ.l0 k l0 a1 0 0) = some (r1, r2, r3) := h
 clear h
 have H' := Aside0.mk H
 clear H
 go_enter Tryz.func26, Tryz.ntmps26
 go_wp2
 go_loopg [1, 4, 7] k (fun kq v1 v4 v7 w' => ∃ (x1_1 : Int) (x4_1 : Int) (x7_1 : Int), v1 = .int .i64 x1_1 ∧ v4 = .int .u64 x4_1 ∧ v7 = .int .i64 x7_1 ∧ Aside0 (spec_TakeVLQ.l0 kq l0 x1_1 x4_1 x7_1 = some (r1, r2, r3)) ∧ Aside0 (kq ≤ k) ∧ Drawn0 w w')
 case atStart => exact ⟨(a1), (0), (0), (by first | rfl | (simp; done) | (simp [*]; done)), (by first | rfl | (simp; done) | (simp [*]; done)), (by first | rfl | (simp; done) | (simp [*]; done)), H', ⟨Nat.le_refl _⟩, by repeat (first | exact Drawn0.refl _ | apply Drawn0.step)⟩
 case round =>
  clear H'
  try clear c2
  try clear p2
  obtain ⟨x1_1, x4_1, x7_1, rfl, rfl, rfl, HA, HK1, ⟨m1, rfl⟩⟩ := hrel
  cases gk with
  | zero => exact absurd HA.out (by simp [spec_TakeVLQ.l0])
  | succ k1 =>
   have H := HA.out
   clear HA
   simp only [spec_TakeVLQ.l0] at H
   have HC3 := Aside0.mk H
   clear H
   go_upto_region 2 with (fail)
   go_cut [16] (fun v16 wc => ∃ (kq : Nat) (x16_2 : Bool), v16 = .bool x16_2 ∧ Aside0 (spec_TakeVLQ.j1 kq l0 x1_1 x4_1 x7_1 x16_2 = some (r1, r2, r3)) ∧ Aside0 (kq ≤ k1) ∧ Drawn0 w wc)
   case first =>
    have H := HC3.out
    clear HC3
    by_cases c4 : x1_1 < (l0.length : Int)
    ·rw [if_pos c4] at H
     have c4b0 : decide (x1_1 < (l0.length : Int)) = true := decide_eq_true c4
     clear c4
     (first | rw [c4b0] | (simp only [i64_w, i32_w]; rw [c4b0]) | skip)
     have H' := Aside0.mk H
     clear H
     go_wp2
     go_meet
     case rel => exact ⟨_, (decide (x7_1 < 70)), (by first | rfl | (simp; done) | (simp [*]; done)), H', ⟨by have := HK1.out; first | omega | exact Nat.le_refl _⟩, by repeat (first | exact Drawn0.refl _ | apply Drawn0.step)⟩
    ·rw [if_neg c4] at H
     have c4b0 : decide (x1_1 < (l0.length : Int)) = false := decide_eq_false c4
     clear c4
     (first | rw [c4b0] | (simp only [i64_w, i32_w]; rw [c4b0]) | skip)
     have H' := Aside0.mk H
     clear H
     go_wp2
     go_meet
     case rel => exact ⟨_, (false), (by first | rfl | (simp; done) | (simp [*]; done)), H', ⟨by have := HK1.out; first | omega | exact Nat.le_refl _⟩, by repeat (first | exact Drawn0.refl _ | apply Drawn0.step)⟩
   case rest =>
    clear HC3
    try clear c2
    try clear p2
    try clear c4
    try clear c4b0
    try clear p2
    obtain ⟨kq, x16_2, rfl, HA, HJ2, ⟨mc2, rfl⟩⟩ := hcut
    cases kq with
    | zero => exact absurd HA.out (by simp [spec_TakeVLQ.j1])
    | succ kj2 =>
     have H := HA.out
     clear HA
     simp only [spec_TakeVLQ.j1] at H
     by_cases c5 : x16_2 = true
     ·subst c5
      have H1 : (if 0 ≤ x1_1 then (if x1_1 < (l0.length : Int) then (if x7_1 = 63 then (spec_TakeVLQ.j2 kj2 l0 (wrap64 (x1_1 + 1)) x4_1 x7_1 (rd l0 x1_1) (decide ((rd l0 x1_1) > 1))) else (spec_TakeVLQ.j2 kj2 l0 (wrap64 (x1_1 + 1)) x4_1 x7_1 (rd l0 x1_1) false)) else (none)) else (none)) = some (r1, r2, r3) := by rw [if_pos rfl] at H; exact H
      clear H
      have H := H1
      clear H1
      by_cases c6 : 0 ≤ x1_1
      ·rw [if_pos c6] at H
       have c6b0 : decide (0 ≤ x1_1) = true := decide_eq_true c6
       clear c6
       by_cases c7 : x1_1 < (l0.length : Int)
       ·rw [if_pos c7] at H
        have c7b0 : decide (x1_1 < (l0.length : Int)) = true := decide_eq_true c7
        clear c7
        have HC8 := Aside0.mk H
        clear H
        have p168 : 0 ≤ (x1_1 : Int) := of_decide_eq_true (by first | (with_reducible assumption) | assumption)
        have q168 : x1_1 < (l0.length : Int) := of_decide_eq_true (by first | (with_reducible assumption) | assumption)
        obtain ⟨ad168, e168, hx168_0⟩ := Kd.at_int HR0.out x1_1 p168 q168
        cases e168
        replace p168 := eq_true p168
        replace q168 := eq_true q168
        go_upto_region 6 with (fail)
        go_cut [30] (fun v30 wc => ∃ (kq : Nat) (x30_7 : Bool), v30 = .bool x30_7 ∧ Aside0 (spec_TakeVLQ.j2 kq l0 (wrap64 (x1_1 + 1)) x4_1 x7_1 (rd l0 x1_1) x30_7 = some (r1, r2, r3)) ∧ Aside0 (kq ≤ kj2) ∧ Drawn0 w wc)
        case first =>
         have H := HC8.out
         clear HC8
         by_cases c9 : x7_1 = 63
         ·rw [if_pos c9] at H
          have c9b0 : (x7_1 == 63) = true := beq_iff_eq.mpr c9
          have c9b1 : (x7_1 != 63) = false := bne_eq_false_iff_eq.mpr c9
          clear c9
          (first | rw [c9b0] | (simp only [i64_w, i32_w]; rw [c9b0]) | skip)
          have H' := Aside0.mk H
          clear H
          go_wp2
          go_meet
          case rel => exact ⟨_, (decide ((rd l0 x1_1) > 1)), (by first | rfl | (simp; done) | (simp [*]; done)), H', ⟨by have := HK1.out; have := HJ2.out; first | omega | exact Nat.le_refl _⟩, by repeat (first | exact Drawn0.refl _ | apply Drawn0.step)⟩
         ·rw [if_neg c9] at H
          have c9b0 : (x7_1 == 63) = false := beq_eq_false_iff_ne.mpr c9
          have c9b1 : (x7_1 != 63) = true := bne_iff_ne.mpr c9
          (first | rw [c9b0] | (simp only [i64_w, i32_w]; rw [c9b0]) | skip)
          have H' := Aside0.mk H
          clear H
          go_wp2
          go_meet
          case rel => exact ⟨_, (false), (by first | rfl | (simp; done) | (simp [*]; done)), H', ⟨by have := HK1.out; have := HJ2.out; first | omega | exact Nat.le_refl _⟩, by repeat (first | exact Drawn0.refl _ | apply Drawn0.step)⟩
        case rest =>
         clear HC8
         try clear p1
         try clear q1
         try clear hx1
         try clear c2
         try clear p2
         try clear c4
         try clear c4b0
         try clear c5
         try clear c6
         try clear c6b0
         try clear p6
         try clear c7
         try clear c7b0
         try clear c9
         try clear c9b0
         try clear c9b1
         try clear hx168_0
         try clear p168
         try clear p2
         try clear q168
         obtain ⟨kq, x30_7, rfl, HA, HJ7, ⟨mc7, rfl⟩⟩ := hcut
         cases kq with
         | zero => exact absurd HA.out (by simp [spec_TakeVLQ.j2])
         | succ kj7 =>
          have H := HA.out
          clear HA
          simp only [spec_TakeVLQ.j2] at H
          by_cases c10 : x30_7 = true
          ·subst c10
           have H1 : (some (0, (wrap64 (x1_1 + 1)), false)) = some (r1, r2, r3) := by rw [if_pos rfl] at H; exact H
           clear H
           have H := H1
           clear H1
           simp only [Option.some.injEq, Prod.mk.injEq] at H
           obtain ⟨rfl, rfl, rfl⟩ := H
           go_wp2
           go_ret3
           exact ⟨by first | rfl | (simp; done) | (simp [*]; done), by repeat (first | exact Drawn0.refl _ | apply Drawn0.step)⟩
          ·replace c10 := Bool.eq_false_iff.mpr c10
           subst c10
           have H1 : (if 0 ≤ x7_1 then (if (rd l0 x1_1) < 128 then (some (Go.bits .or .u64 x4_1 (shl .u64 (IntKind.u64.wrap (Go.bits .and .u8 (rd l0 x1_1) 127)) x7_1), (wrap64 (x1_1 + 1)), true)) else (spec_TakeVLQ.l0 kj7 l0 (wrap64 (x1_1 + 1)) (Go.bits .or .u64 x4_1 (shl .u64 (IntKind.u64.wrap (Go.bits .and .u8 (rd l0 x1_1) 127)) x7_1)) (wrap64 (x7_1 + 7)))) else (none)) = some (r1, r2, r3) := by rw [if_neg (show ¬ (false = true) by decide)] at H; exact H
           clear H
           have H := H1
           clear H1
           by_cases c11 : 0 ≤ x7_1
           ·rw [if_pos c11] at H
            have c11b0 := eq_true c11
            have c11b1 : decide (0 ≤ x7_1) = true := decide_eq_true c11
            clear c11
            obtain ⟨ji12, hji12⟩ : ∃ j_ : Int, (shl .u64 (IntKind.u64.wrap (Go.bits .and .u8 (rd l0 x1_1) 127)) x7_1) = j_ := ⟨_, rfl⟩
            replace H : (if (rd l0 x1_1) < 128 then (some (Go.bits .or .u64 x4_1 (ji12), (wrap64 (x1_1 + 1)), true)) else (spec_TakeVLQ.l0 kj7 l0 (wrap64 (x1_1 + 1)) (Go.bits .or .u64 x4_1 (ji12)) (wrap64 (x7_1 + 7)))) = some (r1, r2, r3) := by first | (rw [hji12] at H; exact H) | (simp only [hji12] at H ⊢; exact H)
            have hji12_ : (IntKind.u64.wrap ((IntKind.u64.wrap (Go.bits .and .u8 (rd l0 x1_1) 127)) * 2 ^ min x7_1.toNat 64)) = ji12 := hji12
            have hji12z : x7_1 ≤ 64 → (IntKind.u64.wrap ((IntKind.u64.wrap (Go.bits .and .u8 (rd l0 x1_1) 127)) * 2 ^ x7_1.toNat)) = ji12 := shl_small hji12
            by_cases c13 : (rd l0 x1_1) < 128
            ·rw [if_pos c13] at H
             have c13b0 : decide ((rd l0 x1_1) < 128) = true := decide_eq_true c13
             clear c13
             simp only [Option.some.injEq, Prod.mk.injEq] at H
             obtain ⟨rfl, rfl, rfl⟩ := H
             go_wp2
             go_ret3
             exact ⟨by first | rfl | (simp; done) | (simp only [← hji12] <;> (first | rfl | simp)) | (simp [*]; done), by repeat (first | exact Drawn0.refl _ | apply Drawn0.step)⟩
            ·rw [if_neg c13] at H
             have c13b0 : decide ((rd l0 x1_1) < 128) = false := decide_eq_false c13
             clear c13
             have H' := Aside0.mk H
             clear H
             go_wp2
             go_roundg kj7
             case measure => have := HK1.out; have := HJ2.out; have := HJ7.out; omega
             case rel => exact ⟨((wrap64 (x1_1 + 1))), (Go.bits .or .u64 x4_1 (ji12)), (wrap64 (x7_1 + 7)), (by first | rfl | (simp; done) | (simp [*]; done)), (by first | rfl | (simp; done) | (simp only [← hji12] <;> (first | rfl | simp)) | (simp [*]; done)), (by first | rfl | (simp; done) | (simp [*]; done)), H', ⟨by have := HK1.out; have := HJ2.out; have := HJ7.out; omega⟩, by repeat (first | exact Drawn0.refl _ | apply Drawn0.step)⟩
           ·rw [if_neg c11] at H
            exact absurd H (by simp)
       ·rw [if_neg c7] at H
        exact absurd H (by simp)
      ·rw [if_neg c6] at H
       exact absurd H (by simp)
     ·replace c5 := Bool.eq_false_iff.mpr c5
      subst c5
      have H1 : (some (0, x1_1, false)) = some (r1, r2, r3) := by rw [if_neg (show ¬ (false = true) by decide)] at H; exact H
      clear H
      have H := H1
      clear H1
      simp only [Option.some.injEq, Prod.mk.injEq] at H
      obtain ⟨rfl, rfl, rfl⟩ := H
      go_wp2
      go_ret3
      exact ⟨by first | rfl | (simp; done) | (simp [*]; done), by repeat (first | exact Drawn0.refl _ | apply Drawn0.step)⟩

/-! ### spec_UnpackBits: function 27 -/
def spec_UnpackBits.l0 : Nat → List Int → Int → Int → Int → List Int → Int → Option (List Int × Bool)
 | 0, _, _, _, _, _, _ => none
 | k + 1, x0, x1, x2, x3, x10, x11 => if x11 < (wrap64 (x3 * x2)) then (if x2 = 0 then (none) else (if 0 ≤ (wrap64 (Int.tdiv x11 x2)) then (if (wrap64 (Int.tdiv x11 x2)) < (x10.length : Int) then (if 0 ≤ (wrap64 (Int.tdiv (wrap64 (x1 + x11)) 8)) then (if (wrap64 (Int.tdiv (wrap64 (x1 + x11)) 8)) < (x0.length : Int) then (if 0 ≤ (Int.tmod (wrap64 (x1 + x11)) 8) then (if 0 ≤ (Int.tmod x11 x2) then (spec_UnpackBits.l0 k x0 x1 x2 x3 (x10.set ((wrap64 (Int.tdiv x11 x2)) : Int).toNat (Go.bits .or .u64 (rd x10 (wrap64 (Int.tdiv x11 x2))) (shl .u64 (IntKind.u64.wrap (Go.bits .and .u8 (shr .u8 (rd x0 (wrap64 (Int.tdiv (wrap64 (x1 + x11)) 8))) (Int.tmod (wrap64 (x1 + x11)) 8)) 1)) (Int.tmod x11 x2)))) (wrap64 (x11 + 1))) else (none)) else (none)) else (none)) else (none)) else (none)) else (none))) else (some (x10, true))
def spec_UnpackBits.f (k : Nat) (l0 : List Int) (a1 : Int) (a2 : Int) (a3 : Int) : Option (List Int × Bool) := if (wrap64 (a1 + (wrap64 (a3 * a2)))) > (wrap64 (8 * (l0.length : Int))) then (some (([] : List Int), false)) else (if 0 ≤ a3 then (if (a3 : Int).toNat ≤ 35184372088832 then (spec_UnpackBits.l0 k l0 a1 a2 a3 (List.replicate (a3 : Int).toNat 0) 0) else (none)) else (none))
theorem spec_UnpackBits.mono_l : ∀ k, (∀ y0 y1 y2 y3 y4 y5, LeO (spec_UnpackBits.l0 k y0 y1 y2 y3 y4 y5) (spec_UnpackBits.l0 (k + 1) y0 y1 y2 y3 y4 y5))
 | 0 => fun _ _ _ _ _ _ r h => by simp [spec_UnpackBits.l0] at h
 | k + 1 => by
  have ih0 := spec_UnpackBits.mono_l k
  ·intro y0 y1 y2 y3 y4 y5
   unfold spec_UnpackBits.l0
   repeat' first
   | (with_reducible exact ih0 _ _ _ _ _ _)
   | (with_reducible exact LeO.refl _)
   | (with_reducible exact LeO.none _)
   | (with_reducible refine LeO.ite ?_ ?_)
   | (with_reducible refine LeO.bind ?_ (fun _ => ?_))
   | exact ih0 _ _ _ _ _ _
   | exact LeO.none _
   | refine LeO.ite ?_ ?_
   | refine LeO.bind ?_ (fun _ => ?_)
theorem spec_UnpackBits.mono : ∀ a0 a1 a2 a3 k, LeO (spec_UnpackBits.f k a0 a1 a2 a3) (spec_UnpackBits.f (k + 1) a0 a1 a2 a3) := by
 intro a0 a1 a2 a3 k
 have ih0 := spec_UnpackBits.mono_l k
 unfold spec_UnpackBits.f
 repeat' first
   | (with_reducible exact ih0 _ _ _ _ _ _)
   | (with_reducible exact LeO.refl _)
   | (with_reducible exact LeO.none _)
   | (with_reducible refine LeO.ite ?_ ?_)
   | (with_reducible refine LeO.bind ?_ (fun _ => ?_))
   | exact ih0 _ _ _ _ _ _
   | exact LeO.none _
   | refine LeO.ite ?_ ?_
   | refine LeO.bind ?_ (fun _ => ?_)
def spec_UnpackBits.T8 : Bool × List (List Nat × List Nat) := (true, [([], []), ([], []), ([], []), ([1, 2], [1, 2]), ([0, 3], [0, 3]), ([4], [4]), ([], []), ([], []), ([7], [7]), ([6, 8], [6, 8]), ([9], [9]), ([], []), ([11], [11]), ([10, 12], [10, 12]), ([13], [13]), ([14], [14]), ([], []), ([], []), ([16, 17], [16, 17]), ([15, 18], [15, 18]), ([5, 19], [5, 19]), ([0, 3, 0, 1, 2, 3, 4, 5, 6, 7, 8, 9, 10, 11, 12, 13, 14, 15, 16, 17, 18, 19, 20], [0, 3]), ([21, 20, 0, 1, 2, 3, 4, 5, 6, 7, 8, 9, 10, 11, 12, 13, 14, 15, 16, 17, 18, 19, 20], [20, 21])])
def spec_UnpackBits.B8 : List Nat := [0, 0, 0, 6, 15, 31, 0, 0, 128, 448, 960, 0, 2048, 8128, 16320, 32704, 0, 0, 196608, 524224, 1048575, 2097151, 4194303]
theorem spec_UnpackBits.tab8 : rtab .any (opsOf Tryz.f27 8) = spec_UnpackBits.T8 := by kernel_rfl
theorem spec_UnpackBits.bits8 : waitsOk spec_UnpackBits.T8.2 spec_UnpackBits.B8 = true := by kernel_rfl
set_option maxHeartbeats 8000000 in
set_option maxRecDepth 100000 in
theorem spec_UnpackBits.calls (k : Nat) (A0 : Option Addr) (c0 : Nat) (l0 : List Int) (a1 : Int) (a2 : Int) (a3 : Int) (r1 : List Int) (r2 : Bool) (w : World) (hr0 : Kd.C (Kd.int .u8) w A0 l0.length l0) (hc0 : l0.length ≤ c0) (h : spec_UnpackBits.f k l0 a1 a2 a3 = some (r1, r2)) :
  Calls Tryz.prog 27 #[.slice A0 l0.length c0, .int .i64 a1, .int .i64 a2, .int .i64 a3] w fun e w' => ∃ v0_ : Value, e = .returned (.tuple #[v0_, .bool r2]) ∧ Kd.R (Kd.int .u64) 26 w' w.heap.size (fun _ => True) v0_ r1 ∧ Below w.heap.size w w' := by
 have HR0 := Aside0.mk hr0
 have HC0 := Aside0.mk hc0
 clear hr0 hc0
 have HB := Aside0.mk (Below.refl w.heap.size w)
 have H : (if (wrap64 (a1 + (wrap64 (a3 * a2)))) > (wrap64 (8 * (l0.length : Int))) then (some (([] : List Int), false)) else (if 0 ≤ a3 then (if (a3 : Int).toNat ≤ 35184372088832 then (spec_UnpackBits.l0 k l0 a1 a2 a3 (List.replicate (a3 : Int).toNat 0) 0) else (none)) else (none))) = some (r1, r2) := h
 clear h
 by_cases c5 : (wrap64 (a1 + (wrap64 (a3 * a2)))) > (wrap64 (8 * (l0.length : Int)))
 ·rw [if_pos c5] at H
  have c5b0 : decide ((wrap64 (8 * (l0.length : Int))) < (wrap64 (a1 + (wrap64 (a3 * a2))))) = true := decide_eq_true c5
  clear c5
  simp only [Option.some.injEq, Prod.mk.injEq] at H
  obtain ⟨rfl, rfl⟩ := H
  go_enter Tryz.func27, Tryz.ntmps27
  go_wp2
  go_ret2
  exact ⟨_, by first | rfl | (simp [errW_none, errW_some] <;> rfl) | (simp [*, errW_none, errW_some] <;> rfl), by first | exact Kd.R_nil _ _ _ _ _ | exact Kd.N_nil _ _ _ _ _ | exact Kd.V_nil _ _ _ _ _ | exact Kd.Q_nil _ _ _ _ _ | exact Kd.S_nil _ _ _ _ _, by repeat (first | (with_reducible first | exact HB.out | apply below_alloc | apply pw_below_drewN | apply below_drew1) | exact HB.out)⟩
 ·rw [if_neg c5] at H
  have c5b0 : decide ((wrap64 (8 * (l0.length : Int))) < (wrap64 (a1 + (wrap64 (a3 * a2))))) = false := decide_eq_false c5
  clear c5
  by_cases c6 : 0 ≤ a3
  ·rw [if_pos c6] at H
   have c6b0 := eq_true c6
   have c6b1 : decide (0 ≤ a3) = true := decide_eq_true c6
   clear c6
   by_cases c7 : (a3 : Int).toNat ≤ 35184372088832
   ·rw [if_pos c7] at H
    have c7b0 := eq_true c7
    have c7b1 : decide ((a3 : Int).toNat ≤ 35184372088832) = true := decide_eq_true c7
    clear c7
    obtain ⟨y169, hy169⟩ : ∃ y_ : List Int, y_ = (List.replicate (a3 : Int).toNat 0) := ⟨_, rfl⟩
    replace H : (spec_UnpackBits.l0 k l0 a1 a2 a3 y169 0) = some (r1, r2) := by first | (rw [hy169]; with_reducible exact H) | (have H2_ := (Option.bind_some _ _).symm.trans H; rw [hy169]; with_reducible exact H2_) | (have H2_ := (Option.bind_some _ _).symm.trans H; with_reducible exact H2_) | with_reducible exact H | (rw [hy169]; exact H) | exact H
    have Ny169 := Aside0.mk hy169
    clear hy169
    have H' := Aside0.mk H
    clear H
    go_enter Tryz.func27, Tryz.ntmps27
    go_wp2_with (first | ((with_reducible refine gate_dst (N := 23) rfl ?_); refine Kd.R_make (Kd.int .u64) _ 26 rfl (N := 23) rfl 37 _ _ rfl a3 rfl rfl Tryz.underlying37 (.int .u64 0) 8 info26 rfl (by decide) (by omega) 0 (ok := fun _ => True) (okp := fun _ => True) rfl (fun _ hk => hk) trivial (of_decide_eq_true (by first | (with_reducible assumption) | assumption)) (Nat.le_trans (Nat.mul_le_mul_right _ (of_decide_eq_true (by first | (with_reducible assumption) | assumption) : a3.toNat ≤ 35184372088832)) (by omega)) (Below.refl _ _) (Nat.le_refl _) ?_; intro v170 w8 ho9 hb hg_ hnew_; clear hg_ hnew_; (first | rw [← Ny169.out] at ho9 | (simp only [Int.reduceToNat] at ho9; rw [← Ny169.out] at ho9)); have n0_ := Aside0.mk (Kd.R_lower ho9 (below_size (by repeat (first | (with_reducible first | exact HB.out | apply below_alloc | apply pw_below_drewN | apply below_drew1) | exact HB.out)))); have n1_ := Aside0.mk (below_step (by repeat (first | (with_reducible first | exact HB.out | apply below_alloc | apply pw_below_drewN | apply below_drew1) | exact HB.out)) hb); clear HB; have HO171 := n0_; have HB := n1_; clear n0_ n1_; clear hb ho9))
    go_loopg [11] k (fun kq v11 w' => ∃ (x10_1 : List Int) (x11_1 : Int), v11 = .int .i64 x11_1 ∧ Aside0 (spec_UnpackBits.l0 kq l0 a1 a2 a3 x10_1 x11_1 = some (r1, r2)) ∧ Aside0 (kq ≤ k) ∧ Aside0 (Kd.R (Kd.int .u64) 26 w' w.heap.size (fun _ => True) v170 x10_1) ∧ Aside0 (Below w.heap.size w w'))
    case atStart => exact ⟨(y169), (0), (by first | rfl | (simp; done) | (simp [*]; done)), H', ⟨Nat.le_refl _⟩, ⟨by (with_reducible repeat (first | apply Kd.R_alloc | apply Kd.R_drewN | apply Kd.R_drew)); exact HO171.out⟩, ⟨by repeat (first | (with_reducible first | exact HB.out | apply below_alloc | apply pw_below_drewN | apply below_drew1) | exact HB.out)⟩⟩
    case round =>
     clear H'
     try clear c2
     try clear p2
     try clear c5
     try clear c5b0
     try clear c6
     try clear c6b0
     try clear c6b1
     try clear p6
     try clear c7
     try clear c7b0
     try clear c7b1
     obtain ⟨x10_1, x11_1, rfl, HA, HK1, HO_10, HB⟩ := hrel
     cases gk with
     | zero => exact absurd HA.out (by simp [spec_UnpackBits.l0])
     | succ k1 =>
      have H := HA.out
      clear HA
      simp only [spec_UnpackBits.l0] at H
      by_cases c10 : x11_1 < (wrap64 (a3 * a2))
      ·rw [if_pos c10] at H
       have c10b0 : decide (x11_1 < (wrap64 (a3 * a2))) = true := decide_eq_true c10
       clear c10
       by_cases c11 : a2 = 0
       ·rw [if_pos c11] at H
        exact absurd H (by simp)
       ·rw [if_neg c11] at H
        have c11b0 : (a2 == 0) = false := beq_eq_false_iff_ne.mpr c11
        have c11b1 : (a2 != 0) = true := bne_iff_ne.mpr c11
        obtain ⟨ji12, hji12⟩ : ∃ j_ : Int, (wrap64 (Int.tdiv x11_1 a2)) = j_ := ⟨_, rfl⟩
        replace H : (if 0 ≤ (ji12) then (if (ji12) < (x10_1.length : Int) then (if 0 ≤ (wrap64 (Int.tdiv (wrap64 (a1 + x11_1)) 8)) then (if (wrap64 (Int.tdiv (wrap64 (a1 + x11_1)) 8)) < (l0.length : Int) then (if 0 ≤ (Int.tmod (wrap64 (a1 + x11_1)) 8) then (if 0 ≤ (Int.tmod x11_1 a2) then (spec_UnpackBits.l0 k1 l0 a1 a2 a3 (x10_1.set ((ji12) : Int).toNat (Go.bits .or .u64 (rd x10_1 (ji12)) (shl .u64 (IntKind.u64.wrap (Go.bits .and .u8 (shr .u8 (rd l0 (wrap64 (Int.tdiv (wrap64 (a1 + x11_1)) 8))) (Int.tmod (wrap64 (a1 + x11_1)) 8)) 1)) (Int.tmod x11_1 a2)))) (wrap64 (x11_1 + 1))) else (none)) else (none)) else (none)) else (none)) else (none)) else (none)) = some (r1, r2) := by first | (rw [hji12] at H; exact H) | (simp only [hji12] at H ⊢; exact H)
        have hji12w : (IntKind.i64.wrap (Int.tdiv x11_1 a2)) = ji12 := (i64_w _).trans hji12
        by_cases c13 : 0 ≤ (ji12)
        ·rw [if_pos c13] at H
         have c13b0 : decide (0 ≤ (ji12)) = true := decide_eq_true c13
         clear c13
         by_cases c14 : (ji12) < (x10_1.length : Int)
         ·rw [if_pos c14] at H
          have c14b0 : decide ((ji12) < (x10_1.length : Int)) = true := decide_eq_true c14
          clear c14
          obtain ⟨ji15, hji15⟩ : ∃ j_ : Int, (wrap64 (Int.tdiv (wrap64 (a1 + x11_1)) 8)) = j_ := ⟨_, rfl⟩
          replace H : (if 0 ≤ (ji15) then (if (ji15) < (l0.length : Int) then (if 0 ≤ (Int.tmod (wrap64 (a1 + x11_1)) 8) then (if 0 ≤ (Int.tmod x11_1 a2) then (spec_UnpackBits.l0 k1 l0 a1 a2 a3 (x10_1.set ((ji12) : Int).toNat (Go.bits .or .u64 (rd x10_1 (ji12)) (shl .u64 (IntKind.u64.wrap (Go.bits .and .u8 (shr .u8 (rd l0 (ji15)) (Int.tmod (wrap64 (a1 + x11_1)) 8)) 1)) (Int.tmod x11_1 a2)))) (wrap64 (x11_1 + 1))) else (none)) else (none)) else (none)) else (none)) = some (r1, r2) := by first | (rw [hji15] at H; exact H) | (simp only [hji15] at H ⊢; exact H)
          have hji15w : (IntKind.i64.wrap (Int.tdiv (wrap64 (a1 + x11_1)) 8)) = ji15 := (i64_w _).trans hji15
          by_cases c16 : 0 ≤ (ji15)
          ·rw [if_pos c16] at H
           have c16b0 : decide (0 ≤ (ji15)) = true := decide_eq_true c16
           clear c16
           by_cases c17 : (ji15) < (l0.length : Int)
           ·rw [if_pos c17] at H
            have c17b0 : decide ((ji15) < (l0.length : Int)) = true := decide_eq_true c17
            clear c17
            obtain ⟨ji18, hji18⟩ : ∃ j_ : Int, (Int.tmod (wrap64 (a1 + x11_1)) 8) = j_ := ⟨_, rfl⟩
            replace H : (if 0 ≤ (ji18) then (if 0 ≤ (Int.tmod x11_1 a2) then (spec_UnpackBits.l0 k1 l0 a1 a2 a3 (x10_1.set ((ji12) : Int).toNat (Go.bits .or .u64 (rd x10_1 (ji12)) (shl .u64 (IntKind.u64.wrap (Go.bits .and .u8 (shr .u8 (rd l0 (ji15)) (ji18)) 1)) (Int.tmod x11_1 a2)))) (wrap64 (x11_1 + 1))) else (none)) else (none)) = some (r1, r2) := by first | (rw [hji18] at H; exact H) | (simp only [hji18] at H ⊢; exact H)
            by_cases c19 : 0 ≤ (ji18)
            ·rw [if_pos c19] at H
             have c19b0 := eq_true c19
             have c19b1 : decide (0 ≤ (ji18)) = true := decide_eq_true c19
             clear c19
             obtain ⟨ji20, hji20⟩ : ∃ j_ : Int, (shr .u8 (rd l0 (ji15)) (ji18)) = j_ := ⟨_, rfl⟩
             replace H : (if 0 ≤ (Int.tmod x11_1 a2) then (spec_UnpackBits.l0 k1 l0 a1 a2 a3 (x10_1.set ((ji12) : Int).toNat (Go.bits .or .u64 (rd x10_1 (ji12)) (shl .u64 (IntKind.u64.wrap (Go.bits .and .u8 (ji20) 1)) (Int.tmod x11_1 a2)))) (wrap64 (x11_1 + 1))) else (none)) = some (r1, r2) := by first | (rw [hji20] at H; exact H) | (simp only [hji20] at H ⊢; exact H)
             have hji20_ : ((rd l0 (ji15)) / 2 ^ min (ji18).toNat 8) = ji20 := hji20
             have hji20z : (ji18) ≤ 8 → ((rd l0 (ji15)) / 2 ^ (ji18).toNat) = ji20 := shr_small hji20
             obtain ⟨ji21, hji21⟩ : ∃ j_ : Int, (Int.tmod x11_1 a2) = j_ := ⟨_, rfl⟩
             replace H : (if 0 ≤ (ji21) then (spec_UnpackBits.l0 k1 l0 a1 a2 a3 (x10_1.set ((ji12) : Int).toNat (Go.bits .or .u64 (rd x10_1 (ji12)) (shl .u64 (IntKind.u64.wrap (Go.bits .and .u8 (ji20) 1)) (ji21)))) (wrap64 (x11_1 + 1))) else (none)) = some (r1, r2) := by first | (rw [hji21] at H; exact H) | (simp only [hji21] at H ⊢; exact H)
             by_cases c22 : 0 ≤ (ji21)
             ·rw [if_pos c22] at H
              have c22b0 := eq_true c22
              have c22b1 : decide (0 ≤ (ji21)) = true := decide_eq_true c22
              clear c22
              obtain ⟨ji23, hji23⟩ : ∃ j_ : Int, (shl .u64 (IntKind.u64.wrap (Go.bits .and .u8 (ji20) 1)) (ji21)) = j_ := ⟨_, rfl⟩
              replace H : (spec_UnpackBits.l0 k1 l0 a1 a2 a3 (x10_1.set ((ji12) : Int).toNat (Go.bits .or .u64 (rd x10_1 (ji12)) (ji23))) (wrap64 (x11_1 + 1))) = some (r1, r2) := by first | (rw [hji23] at H; exact H) | (simp only [hji23] at H ⊢; exact H)
              have hji23_ : (IntKind.u64.wrap ((IntKind.u64.wrap (Go.bits .and .u8 (ji20) 1)) * 2 ^ min (ji21).toNat 64)) = ji23 := hji23
              have hji23z : (ji21) ≤ 64 → (IntKind.u64.wrap ((IntKind.u64.wrap (Go.bits .and .u8 (ji20) 1)) * 2 ^ (ji21).toNat)) = ji23 := shl_small hji23
              obtain ⟨y174, hy174⟩ : ∃ y_ : List Int, y_ = (x10_1.set ((ji12) : Int).toNat (Go.bits .or .u64 (rd x10_1 (ji12)) (ji23))) := ⟨_, rfl⟩
              replace H : (spec_UnpackBits.l0 k1 l0 a1 a2 a3 y174 (wrap64 (x11_1 + 1))) = some (r1, r2) := by first | (rw [hy174]; with_reducible exact H) | (have H2_ := (Option.bind_some _ _).symm.trans H; rw [hy174]; with_reducible exact H2_) | (have H2_ := (Option.bind_some _ _).symm.trans H; with_reducible exact H2_) | with_reducible exact H | (rw [hy174]; exact H) | exact H
              have Ny174 := Aside0.mk hy174
              clear hy174
              have H' := Aside0.mk H
              clear H
              try go_wp2
              have n0_ := Aside0.mk (Kd.R_drew HO_10.out)
              have n1_ := Aside0.mk (below_drew1 HB.out)
              clear HO_10 HB
              have HO_10 := n0_
              have HB := n1_
              clear n0_ n1_
              obtain ⟨Ao26, co26, eo26⟩ := Kd.R_slice HO_10.out
              (first | subst eo26 | (injection eo26 with f1_ f2_ f3_; have f4_ := f1_.symm; have f5_ := f3_.symm; clear f1_ f2_ f3_; subst f4_; subst f5_))
              have p172 : 0 ≤ ((ji12) : Int) := of_decide_eq_true (by first | (with_reducible assumption) | assumption)
              have q172 : (ji12) < (x10_1.length : Int) := of_decide_eq_true (by first | (with_reducible assumption) | assumption)
              obtain ⟨ad172, e172, hx172_0⟩ := Kd.at_int (Kd.R_reads' HO_10.out).2.2 (ji12) p172 q172
              cases e172
              replace p172 := eq_true p172
              replace q172 := eq_true q172
              have p173 : 0 ≤ ((ji15) : Int) := of_decide_eq_true (by first | (with_reducible assumption) | assumption)
              have q173 : (ji15) < (l0.length : Int) := of_decide_eq_true (by first | (with_reducible assumption) | assumption)
              obtain ⟨ad173, e173, hx173_0⟩ := Kd.at_int HR0.out (ji15) p173 q173
              have hw173_0 := hx173_0
              cases e173
              replace hx173_0 := (HB.out.cell (World.block_lt_of_cell? w _ hx173_0)).trans hx173_0
              replace p173 := eq_true p173
              replace q173 := eq_true q173
              have p24 : 0 ≤ ((ji12) : Int) := of_decide_eq_true (by first | (with_reducible assumption) | assumption)
              have q24 : ((ji12) : Int) < ((x10_1.length : Int) : Int) := of_decide_eq_true (by first | (with_reducible assumption) | assumption)
              obtain ⟨go24, co24, eo24, gb24, gl24, cl24, HG24⟩ := Kd.R_form HO_10.out (by omega)
              (first | cases eo24 | (injection eo24 with ea_ en_ ec_; (first | subst ea_ | (injection ea_ with ea_; subst ea_)); subst ec_; clear en_))
              have GB24 := Aside0.mk gb24
              have GG24 := Aside0.mk HG24
              clear gb24 gl24 HG24
              (first | simp only [add_plain] at hx172_0 | skip)
              obtain ⟨hx24_0, hf24_0⟩ := Kd.R_celln 0 HO_10.out ((ji12) : Int) p24 q24
              replace p24 := eq_true p24
              replace q24 := eq_true q24
              have HP27 := Kd.R_putn HO_10.out ((ji12) : Int) (Go.bits .or .u64 (rd x10_1 (ji12)) (ji23))
              rw [← Ny174.out] at HP27
              have HQ27 := Aside0.mk HP27
              clear HP27
              refine start_ (n := 23) (S := fun w' => w'.cell? ⟨go24, ((ji12)).toNat, none⟩ = some (.int .u64 (rd x10_1 (ji12))) ∧ w'.cell? (ad173.add ((ji15)).toNat) = some (.int .u8 (rd l0 (ji15)))) (ds := [22]) #[false, false, false, false, false, false, false, false, false, false, false, false, false, false, false, false, false, false, false, false, false, false, false] (by kernel_rfl) rfl rfl ⟨hx172_0, ((HB.out.cell (World.block_lt_of_cell? w _ hw173_0)).trans hw173_0)⟩ (fun hHeld => ?_); refine with_tabW spec_UnpackBits.tab8 spec_UnpackBits.bits8 (fun HT_ HW_ => ?_)
              generalize wr.drew = w25 at HO_10 HB GG24 HQ27 hf24_0 hx172_0 hx173_0 hx24_0 hHeld ⊢
              refine pure_ (i := 0) (N := some 34) (v := ?_) (a' := ?_) #[true, false, false, false, false, false, false, false, false, false, false, false, false, false, false, false, false, false, false, false, false, false, false] rfl rfl (any_of HT_.out (by kernel_rfl)) (fun _ _ _ h => h) (Or.inl ⟨by rfl, ?_⟩) ?_ ?_
              rotate_left
              ·intro w'
               go_simp
               with_reducible rfl
              rotate_left
              ·simp only [Act.put, List.setIfInBounds_toArray, List.set_cons_zero, List.set_cons_succ, i64_w, i32_w]
               rfl
              refine pure_ (i := 1) (N := some 35) (v := ?_) (a' := ?_) #[true, true, false, false, false, false, false, false, false, false, false, false, false, false, false, false, false, false, false, false, false, false, false] rfl rfl (any_of HT_.out (by kernel_rfl)) (fun _ _ _ h => h) (Or.inl ⟨by rfl, ?_⟩) ?_ ?_
              rotate_left
              ·intro w'
               go_simp
               with_reducible rfl
              rotate_left
              ·simp only [Act.put, List.setIfInBounds_toArray, List.set_cons_zero, List.set_cons_succ, i64_w, i32_w]
               rfl
              refine pure_ (i := 2) (N := some 36) (v := ?_) (a' := ?_) #[true, true, true, false, false, false, false, false, false, false, false, false, false, false, false, false, false, false, false, false, false, false, false] rfl rfl (any_of HT_.out (by kernel_rfl)) (fun _ _ _ h => h) (Or.inl ⟨by rfl, ?_⟩) ?_ ?_
              rotate_left
              ·intro w'
               go_simp
               with_reducible rfl
              rotate_left
              ·simp only [Act.put, List.setIfInBounds_toArray, List.set_cons_zero, List.set_cons_succ, i64_w, i32_w]
               rfl
              refine pure_ (i := 3) (N := some 37) (v := ?_) (a' := ?_) #[true, true, true, true, false, false, false, false, false, false, false, false, false, false, false, false, false, false, false, false, false, false, false] rfl rfl (any_of HT_.out (by kernel_rfl)) (fun _ _ _ h => h) (Or.inl ⟨by rfl, ?_⟩) ?_ ?_
              rotate_left
              ·intro w'
               go_simp
               with_reducible rfl
              rotate_left
              ·simp only [Act.put, List.setIfInBounds_toArray, List.set_cons_zero, List.set_cons_succ, i64_w, i32_w]
               rfl
              refine pure_ (i := 4) (N := some 38) (v := ?_) (a' := ?_) #[true, true, true, true, true, false, false, false, false, false, false, false, false, false, false, false, false, false, false, false, false, false, false] rfl rfl (any_of HT_.out (by kernel_rfl)) (fun _ _ _ h => h) (Or.inl ⟨by rfl, ?_⟩) ?_ ?_
              rotate_left
              ·intro w'
               go_simp
               with_reducible rfl
              rotate_left
              ·simp only [Act.put, List.setIfInBounds_toArray, List.set_cons_zero, List.set_cons_succ, i64_w, i32_w]
               rfl
              refine pure_ (i := 6) (N := some 40) (v := ?_) (a' := ?_) #[true, true, true, true, true, false, true, false, false, false, false, false, false, false, false, false, false, false, false, false, false, false, false] rfl rfl (any_of HT_.out (by kernel_rfl)) (fun _ _ _ h => h) (Or.inl ⟨by rfl, ?_⟩) ?_ ?_
              rotate_left
              ·intro w'
               go_simp
               with_reducible rfl
              rotate_left
              ·simp only [Act.put, List.setIfInBounds_toArray, List.set_cons_zero, List.set_cons_succ, i64_w, i32_w]
               rfl
              refine pure_ (i := 7) (N := some 41) (v := ?_) (a' := ?_) #[true, true, true, true, true, false, true, true, false, false, false, false, false, false, false, false, false, false, false, false, false, false, false] rfl rfl (any_of HT_.out (by kernel_rfl)) (fun _ _ _ h => h) (Or.inl ⟨by rfl, ?_⟩) ?_ ?_
              rotate_left
              ·intro w'
               go_simp
               with_reducible rfl
              rotate_left
              ·simp only [Act.put, List.setIfInBounds_toArray, List.set_cons_zero, List.set_cons_succ, i64_w, i32_w]
               rfl
              refine pure_ (i := 8) (N := some 42) (v := ?_) (a' := ?_) #[true, true, true, true, true, false, true, true, true, false, false, false, false, false, false, false, false, false, false, false, false, false, false] rfl rfl (any_of HT_.out (by kernel_rfl)) (fun _ _ _ h => h) (Or.inl ⟨by rfl, ?_⟩) ?_ ?_
              rotate_left
              ·intro w'
               go_simp
               with_reducible rfl
              rotate_left
              ·simp only [Act.put, List.setIfInBounds_toArray, List.set_cons_zero, List.set_cons_succ, i64_w, i32_w]
               rfl
              refine pure_ (i := 9) (N := some 43) (v := ?_) (a' := ?_) #[true, true, true, true, true, false, true, true, true, true, false, false, false, false, false, false, false, false, false, false, false, false, false] rfl rfl (any_of HT_.out (by kernel_rfl)) (fun _ _ _ h => h) (Or.inl ⟨by rfl, ?_⟩) ?_ ?_
              rotate_left
              ·intro w'
               go_simp
               with_reducible rfl
              rotate_left
              ·simp only [Act.put, List.setIfInBounds_toArray, List.set_cons_zero, List.set_cons_succ, i64_w, i32_w]
               rfl
              refine pure_ (i := 11) (N := some 45) (v := ?_) (a' := ?_) #[true, true, true, true, true, false, true, true, true, true, false, true, false, false, false, false, false, false, false, false, false, false, false] rfl rfl (any_of HT_.out (by kernel_rfl)) (fun _ _ _ h => h) (Or.inl ⟨by rfl, ?_⟩) ?_ ?_
              rotate_left
              ·intro w'
               go_simp
               with_reducible rfl
              rotate_left
              ·simp only [Act.put, List.setIfInBounds_toArray, List.set_cons_zero, List.set_cons_succ, i64_w, i32_w]
               rfl
              refine pure_ (i := 12) (N := some 46) (v := ?_) (a' := ?_) #[true, true, true, true, true, false, true, true, true, true, false, true, true, false, false, false, false, false, false, false, false, false, false] rfl rfl (any_of HT_.out (by kernel_rfl)) (fun _ _ _ h => h) (Or.inl ⟨by rfl, ?_⟩) ?_ ?_
              rotate_left
              ·intro w'
               go_simp
               with_reducible rfl
              rotate_left
              ·simp only [Act.put, List.setIfInBounds_toArray, List.set_cons_zero, List.set_cons_succ, i64_w, i32_w]
               rfl
              refine pure_ (i := 16) (N := some 50) (v := ?_) (a' := ?_) #[true, true, true, true, true, false, true, true, true, true, false, true, true, false, false, false, true, false, false, false, false, false, false] rfl rfl (any_of HT_.out (by kernel_rfl)) (fun _ _ _ h => h) (Or.inl ⟨by rfl, ?_⟩) ?_ ?_
              rotate_left
              ·intro w'
               go_simp
               with_reducible rfl
              rotate_left
              ·simp only [Act.put, List.setIfInBounds_toArray, List.set_cons_zero, List.set_cons_succ, i64_w, i32_w]
               rfl
              refine pure_ (i := 17) (N := some 51) (v := ?_) (a' := ?_) #[true, true, true, true, true, false, true, true, true, true, false, true, true, false, false, false, true, true, false, false, false, false, false] rfl rfl (any_of HT_.out (by kernel_rfl)) (fun _ _ _ h => h) (Or.inl ⟨by rfl, ?_⟩) ?_ ?_
              rotate_left
              ·intro w'
               go_simp
               with_reducible rfl
              rotate_left
              ·simp only [Act.put, List.setIfInBounds_toArray, List.set_cons_zero, List.set_cons_succ, i64_w, i32_w]
               rfl
              refine pure_ (i := 18) (N := some 52) (v := ?_) (a' := ?_) #[true, true, true, true, true, false, true, true, true, true, false, true, true, false, false, false, true, true, true, false, false, false, false] rfl rfl (any_of HT_.out (by kernel_rfl)) (fun _ _ _ h => h) (Or.inl ⟨by rfl, ?_⟩) ?_ ?_
              rotate_left
              ·intro w'
               go_simp
               with_reducible rfl
              rotate_left
              ·simp only [Act.put, List.setIfInBounds_toArray, List.set_cons_zero, List.set_cons_succ, i64_w, i32_w]
               rfl
              refine take_ (i := 5) (N := some 39) (v := ?_) (a' := ?_) #[true, true, true, true, true, true, true, true, true, true, false, true, true, false, false, false, true, true, true, false, false, false, false] rfl rfl (take_ofW HT_.out HW_.out (by kernel_rfl)) (fun _ _ _ h => h) (Or.inl ⟨by rfl, ?_⟩) hHeld ?_ ?_
              rotate_left
              ·rintro w' ⟨s0, s1⟩
               go_simp
               with_reducible rfl
              rotate_left
              ·simp only [Act.put, List.setIfInBounds_toArray, List.set_cons_zero, List.set_cons_succ, i64_w, i32_w]
               rfl
              refine take_ (i := 10) (N := some 44) (v := ?_) (a' := ?_) #[true, true, true, true, true, true, true, true, true, true, true, true, true, false, false, false, true, true, true, false, false, false, false] rfl rfl (take_ofW HT_.out HW_.out (by kernel_rfl)) (fun _ _ _ h => h) (Or.inl ⟨by rfl, ?_⟩) hHeld ?_ ?_
              rotate_left
              ·rintro w' ⟨s0, s1⟩
               go_simp
               with_reducible rfl
              rotate_left
              ·simp only [Act.put, List.setIfInBounds_toArray, List.set_cons_zero, List.set_cons_succ, i64_w, i32_w]
               rfl
              refine pure_ (i := 13) (N := some 47) (v := ?_) (a' := ?_) #[true, true, true, true, true, true, true, true, true, true, true, true, true, true, false, false, true, true, true, false, false, false, false] rfl rfl (any_of HT_.out (by kernel_rfl)) (fun _ _ _ h => h) (Or.inl ⟨by rfl, ?_⟩) ?_ ?_
              rotate_left
              ·intro w'
               go_simp
               with_reducible rfl
              rotate_left
              ·simp only [Act.put, List.setIfInBounds_toArray, List.set_cons_zero, List.set_cons_succ, i64_w, i32_w]
               rfl
              refine pure_ (i := 14) (N := some 48) (v := ?_) (a' := ?_) #[true, true, true, true, true, true, true, true, true, true, true, true, true, true, true, false, true, true, true, false, false, false, false] rfl rfl (any_of HT_.out (by kernel_rfl)) (fun _ _ _ h => h) (Or.inl ⟨by rfl, ?_⟩) ?_ ?_
              rotate_left
              ·intro w'
               go_simp
               with_reducible rfl
              rotate_left
              ·simp only [Act.put, List.setIfInBounds_toArray, List.set_cons_zero, List.set_cons_succ, i64_w, i32_w]
               rfl
              refine pure_ (i := 15) (N := some 49) (v := ?_) (a' := ?_) #[true, true, true, true, true, true, true, true, true, true, true, true, true, true, true, true, true, true, true, false, false, false, false] rfl rfl (any_of HT_.out (by kernel_rfl)) (fun _ _ _ h => h) (Or.inl ⟨by rfl, ?_⟩) ?_ ?_
              rotate_left
              ·intro w'
               go_simp
               with_reducible rfl
              rotate_left
              ·simp only [Act.put, List.setIfInBounds_toArray, List.set_cons_zero, List.set_cons_succ, i64_w, i32_w]
               rfl
              refine pure_ (i := 19) (N := some 53) (v := ?_) (a' := ?_) #[true, true, true, true, true, true, true, true, true, true, true, true, true, true, true, true, true, true, true, true, false, false, false] rfl rfl (any_of HT_.out (by kernel_rfl)) (fun _ _ _ h => h) (Or.inl ⟨by rfl, ?_⟩) ?_ ?_
              rotate_left
              ·intro w'
               go_simp
               with_reducible rfl
              rotate_left
              ·simp only [Act.put, List.setIfInBounds_toArray, List.set_cons_zero, List.set_cons_succ, i64_w, i32_w]
               rfl
              refine pure_ (i := 20) (N := some 54) (v := ?_) (a' := ?_) #[true, true, true, true, true, true, true, true, true, true, true, true, true, true, true, true, true, true, true, true, true, false, false] rfl rfl (any_of HT_.out (by kernel_rfl)) (fun _ _ _ h => h) (Or.inl ⟨by rfl, ?_⟩) ?_ ?_
              rotate_left
              ·intro w'
               go_simp
               with_reducible rfl
              rotate_left
              ·simp only [Act.put, List.setIfInBounds_toArray, List.set_cons_zero, List.set_cons_succ, i64_w, i32_w]
               rfl
              refine pure_ (i := 21) (N := some 55) (v := ?_) (a' := ?_) #[true, true, true, true, true, true, true, true, true, true, true, true, true, true, true, true, true, true, true, true, true, true, false] rfl rfl (any_of HT_.out (by kernel_rfl)) (fun _ _ _ h => h) (Or.inl ⟨by rfl, ?_⟩) ?_ ?_
              rotate_left
              ·intro w'
               go_simp
               with_reducible rfl
              rotate_left
              ·simp only [Act.put, List.setIfInBounds_toArray, List.set_cons_zero, List.set_cons_succ, i64_w, i32_w]
               rfl
              refine last_ (i := 22) (N := none) #[true, true, true, true, true, true, true, true, true, true, true, true, true, true, true, true, true, true, true, true, true, true, true] rfl rfl (one_of HT_.out (by kernel_rfl)) (by decide) (fun K hK => ?_)
              refine skip_ (w1 := ?_) (by rfl) rfl ?_ ?_
              rotate_left
              ·go_simp
               rfl
              refine hK.out _ _ ?_
              clear hK K
              refine done_ (done_of HT_.out (by kernel_rfl)) ?_
              try go_wp2
              go_roundg k1
              case measure => have := HK1.out; omega
              case rel => exact ⟨(y174), (wrap64 (x11_1 + 1)), (by first | rfl | (simp; done) | (simp [*]; done)), H', ⟨by have := HK1.out; omega⟩, ⟨by (with_reducible repeat (first | apply Kd.R_alloc | apply Kd.R_drewN | apply Kd.R_drew)); exact HQ27.out⟩, ⟨by repeat (first | (with_reducible first | exact HB.out | apply below_alloc | apply pw_below_drewN | apply below_drew1 | refine below_set ?_ GB24.out) | exact HB.out)⟩⟩
             ·rw [if_neg c22] at H
              exact absurd H (by simp)
            ·rw [if_neg c19] at H
             exact absurd H (by simp)
           ·rw [if_neg c17] at H
            exact absurd H (by simp)
          ·rw [if_neg c16] at H
           exact absurd H (by simp)
         ·rw [if_neg c14] at H
          exact absurd H (by simp)
        ·rw [if_neg c13] at H
         exact absurd H (by simp)
      ·rw [if_neg c10] at H
       have c10b0 : decide (x11_1 < (wrap64 (a3 * a2))) = false := decide_eq_false c10
       clear c10
       simp only [Option.some.injEq, Prod.mk.injEq] at H
       obtain ⟨rfl, rfl⟩ := H
       go_wp2
       go_ret2
       exact ⟨_, by first | rfl | (simp [errW_none, errW_some] <;> rfl) | (simp [*, errW_none, errW_some] <;> rfl), by (with_reducible repeat (first | apply Kd.R_alloc | apply Kd.R_drewN | apply Kd.R_drew)); exact HO_10.out, by repeat (first | (with_reducible first | exact HB.out | apply below_alloc | apply pw_below_drewN | apply below_drew1) | exact HB.out)⟩
   ·rw [if_neg c7] at H
    exact absurd H (by simp)
  ·rw [if_neg c6] at H
   exact absurd H (by simp)

end Go.Proofs.YtiieljnllgeoeaaGreat.Q
