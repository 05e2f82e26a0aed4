/- spec.ToWords, walked: a number whose sign is true. -/
import Derived.Test.YtnjniacohbeonaaTow0
namespace Go.Proofs.Ytnjniacohbeonaa.Q
open Go.RowKit Go.Proofs.YtnjniacohbeonaaW.PrintWords Go.Proofs.YtnjniacohbeonaaW.PrintLast Go.Proofs.YtnjniacohbeonaaW.PrintMore
attribute [local go_sem] max2_int min2_int max_two min_two max_three min_three max_four min_four
set_option linter.unusedVariables false
set_option linter.unusedSimpArgs false

set_option maxHeartbeats 8000000 in
set_option maxRecDepth 100000 in
theorem spec_ToWords.calls_t (k : Nat) (a0_0 : Bool) (A0_1 : Option Addr) (c0_1 : Nat) (l0_1 : List Int) (a1 : Int) (r1 : List Int) (r2 : Bool) (w : World) (hr0_1 : Kd.C (Kd.int .u32) w A0_1 l0_1.length l0_1) (hc0_1 : l0_1.length ≤ c0_1) (ha_ : a0_0 = true) (h : spec_ToWords.f k a0_0 l0_1 a1 = some (r1, r2)) :
    Calls Try.prog 15 #[.agg #[.bool a0_0, .slice A0_1 l0_1.length c0_1], .int .i64 a1] w fun e w' => ∃ v0_ : Value, e = .returned (.tuple #[v0_, .bool r2]) ∧ Kd.R (Kd.int .u64) 32 w' w.heap.size (fun _ => True) v0_ r1 ∧ Below w.heap.size w w' := by
 have HA_ := Aside0.mk ha_
 clear ha_
 have hu27 := Try.underlying27
 have HR0_1 := Aside0.mk hr0_1
 have HC0_1 := Aside0.mk hc0_1
 clear hr0_1 hc0_1
 have HB := Aside0.mk (Below.refl w.heap.size w)
 have H : ((spec_Two.f k (wrap64 ((wrap64 (64 * a1)) - 1))).bind fun bt293 => ((spec_WideCmp.f k a0_0 l0_1 bt293.1 bt293.2).bind fun t298 => (if t298 < 0 then ((spec_Wide_Negated.f k bt293.1 bt293.2).bind fun bt299 => ((spec_WideCmp.f k a0_0 l0_1 bt299.1 bt299.2).bind fun t303 => (spec_ToWords.j0 k a1 (decide (t303 ≥ 0)) a0_0 l0_1))) else (spec_ToWords.j0 k a1 false a0_0 l0_1)))) = some (r1, r2) := h
 clear h
 replace H := Option.bind_eq_some_iff.mp H
 obtain ⟨⟨t293, t294⟩, A30, H⟩ := H
 replace H : ((spec_WideCmp.f k a0_0 l0_1 t293 t294).bind fun t298 => (if t298 < 0 then ((spec_Wide_Negated.f k t293 t294).bind fun bt299 => ((spec_WideCmp.f k a0_0 l0_1 bt299.1 bt299.2).bind fun t303 => (spec_ToWords.j0 k a1 (decide (t303 ≥ 0)) a0_0 l0_1))) else (spec_ToWords.j0 k a1 false a0_0 l0_1))) = some (r1, r2) := H
 have A3 := Aside0.mk A30
 clear A30
 have HC4 := Aside0.mk H
 clear H
 go_enter Try.func15, Try.ntmps15
 go_upto_region 2 with (first | ((with_reducible refine gate_dst (N := 2) rfl ?_); refine box_event ?hg (N := 2) ?hd (cs := #[.bool a0_0, .slice A0_1 l0_1.length c0_1]) (t := 27) ?hr ?_; (case hd => rfl); (case hg => rfl); (case hr => first | (go_simp; done) | (go_simp; rfl)); intro gb292 hg w5 hbox hb; have n0_ := Aside0.mk (below_step (by repeat (first | (with_reducible first | exact HB.out | apply below_alloc | apply pw_below_drewN | apply below_drew1) | exact HB.out)) hb); have n1_ := Aside0.mk (hbox); have n2_ := Aside0.mk ((by rw [hg]; exact (below_size (by repeat (first | (with_reducible first | exact HB.out | apply below_alloc | apply pw_below_drewN | apply below_drew1) | exact HB.out))) : w.heap.size ≤ gb292)); have n3_ := Aside0.mk ((by rw [hg]; exact (below_size (by repeat (first | (with_reducible first | exact HB.out | apply below_alloc | apply pw_below_drewN | apply below_drew1) | exact HB.out))) : w.heap.size ≤ gb292)); clear HB; have HB := n0_; have BK292 := n1_; have GW292 := n2_; have GE292 := n3_; clear n0_ n1_ n2_ n3_; clear hb hbox hg) | ((with_reducible refine gate_callee (f := 36) rfl ?_); refine goesL_ (some 16) rfl rfl Try.func36 (by kernel_rfl) rfl #[.int .i64 (wrap64 ((wrap64 (64 * a1)) - 1))] rfl (by (try simp only [List.map_toArray, List.map_cons, List.map_nil]); first | done | rfl | (simp only [List.length_drop, List.length_take]; rfl)) ?_; (with_reducible refine (spec_Two.calls k (wrap64 ((wrap64 (64 * a1)) - 1)) t293 t294 _ A3.out).mono ?_); rintro e w6 ⟨v295, rfl, ho0, hb⟩; refine ⟨_, rfl, ?_⟩; have n0_ := Aside0.mk (Kd.V_lower (Kd.V_mono (ok' := fun k_ => k_ ≠ gb292) ho0 (fun k_ hk_ => (Kd.freshB (g := gb292) (o := .cells #[.bool a0_0, .slice A0_1 l0_1.length c0_1] 27 (0, 0)) (by (with_reducible repeat (first | refine blk_drewN ?_ _ | refine blk_drew ?_ | refine blk_alloc ?_ _)); exact BK292.out) k_ hk_))) (below_size (by repeat (first | (with_reducible first | exact HB.out | apply below_alloc | apply pw_below_drewN | apply below_drew1 | refine below_set ?_ GE292.out) | exact HB.out)))); have n1_ := Aside0.mk (blk_below (g := gb292) (o := .cells #[.bool a0_0, .slice A0_1 l0_1.length c0_1] 27 (0, 0)) (by (with_reducible repeat (first | refine blk_drewN ?_ _ | refine blk_drew ?_ | refine blk_alloc ?_ _)); exact BK292.out) hb); have n2_ := Aside0.mk (below_step (by repeat (first | (with_reducible first | exact HB.out | apply below_alloc | apply pw_below_drewN | apply below_drew1 | refine below_set ?_ GE292.out) | exact HB.out)) hb); clear BK292; clear HB; have HO296 := n0_; have BK292 := n1_; have HB := n2_; clear n0_ n1_ n2_; (try clear hb); (try clear hb2); (try clear hk); (try clear hi); (try clear ho0)) | ((with_reducible refine gate_dst (N := 6) rfl ?_); refine box_event ?hg (N := 6) ?hd (cs := #[.bool false, .slice none 0 0]) (t := 27) ?hr ?_; (case hd => rfl); (case hg => rfl); (case hr => first | (go_simp; done) | (go_simp; rfl)); intro gb297 hg w7 hbox hb; have n0_ := Aside0.mk (Kd.V_below (Kd.V_elderB (by (with_reducible repeat (first | apply Kd.V_alloc | apply Kd.V_drewN | apply Kd.V_drew)); exact HO296.out) gb297 (Nat.le_of_eq hg.symm)) hb); have n1_ := Aside0.mk (blk_below (g := gb292) (o := .cells #[.bool a0_0, .slice A0_1 l0_1.length c0_1] 27 (0, 0)) (by (with_reducible repeat (first | refine blk_drewN ?_ _ | refine blk_drew ?_ | refine blk_alloc ?_ _)); exact BK292.out) hb); have n2_ := Aside0.mk (below_step (by repeat (first | (with_reducible first | exact HB.out | apply below_alloc | apply pw_below_drewN | apply below_drew1 | refine below_set ?_ GE292.out) | exact HB.out)) hb); have n3_ := Aside0.mk (hbox); have n4_ := Aside0.mk ((by rw [hg]; exact (below_size (by repeat (first | (with_reducible first | exact HB.out | apply below_alloc | apply pw_below_drewN | apply below_drew1 | refine below_set ?_ GE292.out) | exact HB.out))) : w.heap.size ≤ gb297)); have n5_ := Aside0.mk ((by rw [hg]; exact (below_size (by repeat (first | (with_reducible first | exact HB.out | apply below_alloc | apply pw_below_drewN | apply below_drew1 | refine below_set ?_ GE292.out) | exact HB.out))) : w.heap.size ≤ gb297)); have n6_ := Aside0.mk ((by rw [hg]; exact Nat.ne_of_lt (blk_lt (g := gb292) (o := .cells #[.bool a0_0, .slice A0_1 l0_1.length c0_1] 27 (0, 0)) (by (with_reducible repeat (first | refine blk_drewN ?_ _ | refine blk_drew ?_ | refine blk_alloc ?_ _)); exact BK292.out)) : gb292 ≠ gb297)); have n7_ := Aside0.mk ((by rw [hg]; exact Nat.ne_of_gt (blk_lt (g := gb292) (o := .cells #[.bool a0_0, .slice A0_1 l0_1.length c0_1] 27 (0, 0)) (by (with_reducible repeat (first | refine blk_drewN ?_ _ | refine blk_drew ?_ | refine blk_alloc ?_ _)); exact BK292.out)) : gb297 ≠ gb292)); clear HO296; clear BK292; clear HB; have HO296 := n0_; have BK292 := n1_; have HB := n2_; have BK297 := n3_; have GW297 := n4_; have GE297 := n5_; have NB292_297 := n6_; have NB297_292 := n7_; clear n0_ n1_ n2_ n3_ n4_ n5_ n6_ n7_; clear hb hbox hg; have hnb8 := NB297_292.out; have hnc8 := NB292_297.out; have hcz9_0 : w7.cell? ⟨gb297, 0, none⟩ = some (.bool false) := (blk_cell BK297.out 0).trans rfl; have hcz9_1 : w7.cell? ⟨gb297, 1, none⟩ = some (.slice none 0 0) := (blk_cell BK297.out 1).trans rfl; have hfz9_0 := blk_frozen BK297.out 0; have hfz9_1 := blk_frozen BK297.out 1; obtain ⟨Ao10, co10, eo10⟩ := Kd.V_slice HO296.out; subst eo10))
 (try simp only [Act.put, List.setIfInBounds_toArray, List.set_cons_zero, List.set_cons_succ])
 go_cut [7] (fun v7 wc => ∃ (kq : Nat) (x7_3 : Bool), v7 = .bool x7_3 ∧ Aside0 (spec_ToWords.j0 kq a1 x7_3 a0_0 l0_1 = some (r1, r2)) ∧ Aside0 (kq ≤ k) ∧ Aside0 (Kd.V (Kd.int .u32) 44 wc w.heap.size (fun k_ => k_ ≠ gb292 ∧ k_ ≠ gb297) (.slice Ao10 t294.length co10) t294) ∧ Aside0 (wc.heap[gb292]? = some (.cells #[.bool a0_0, (.slice A0_1 l0_1.length c0_1)] 27 (0, 0))) ∧ Aside0 (wc.heap[gb297]? = some (.cells #[.bool t293, (.slice Ao10 t294.length co10)] 27 (0, 0))) ∧ Aside0 (Below w.heap.size w wc))
 case first =>
  have H := HC4.out
  clear HC4
  replace H := Option.bind_eq_some_iff.mp H
  obtain ⟨t298, A110, H⟩ := H
  replace H : (if t298 < 0 then ((spec_Wide_Negated.f k t293 t294).bind fun bt299 => ((spec_WideCmp.f k a0_0 l0_1 bt299.1 bt299.2).bind fun t303 => (spec_ToWords.j0 k a1 (decide (t303 ≥ 0)) a0_0 l0_1))) else (spec_ToWords.j0 k a1 false a0_0 l0_1)) = some (r1, r2) := H
  have A11 := Aside0.mk A110
  clear A110
  by_cases c12 : t298 < 0
  ·rw [if_pos c12] at H
   have c12b0 : decide (t298 < 0) = true := decide_eq_true c12
   clear c12
   (first | rw [c12b0] | (simp only [i64_w, i32_w]; rw [c12b0]) | skip)
   replace H := Option.bind_eq_some_iff.mp H
   obtain ⟨⟨t299, t300⟩, A130, H⟩ := H
   replace H : ((spec_WideCmp.f k a0_0 l0_1 t299 t300).bind fun t303 => (spec_ToWords.j0 k a1 (decide (t303 ≥ 0)) a0_0 l0_1)) = some (r1, r2) := H
   have A13 := Aside0.mk A130
   clear A130
   replace H := Option.bind_eq_some_iff.mp H
   obtain ⟨t303, A140, H⟩ := H
   replace H : (spec_ToWords.j0 k a1 (decide (t303 ≥ 0)) a0_0 l0_1) = some (r1, r2) := H
   have A14 := Aside0.mk A140
   clear A140
   have H' := Aside0.mk H
   clear H
   try go_wp2
   have n0_ : Aside0 (Kd.V (Kd.int .u32) 44 ((w7.setCell ⟨gb297, 0, none⟩ (.bool t293)).setCell ⟨gb297, 1, none⟩ (.slice Ao10 t294.length co10)) w.heap.size (fun k_ => k_ ≠ gb292 ∧ k_ ≠ gb297) (.slice Ao10 t294.length co10) t294) := ⟨by (with_reducible repeat (first | apply Kd.V_alloc | apply Kd.V_drewN | apply Kd.V_drew)); exact Kd.V_mono (Kd.V_far (p := ⟨gb297, 1, none⟩) (Kd.V_far (p := ⟨gb297, 0, none⟩) (Kd.V_mono HO296.out (fun k_ hk => (⟨hk, hk.2⟩ : _ ∧ k_ ≠ gb297))) (fun _ hk => hk.2) (.bool t293)) (fun _ hk => hk.2) (.slice Ao10 t294.length co10)) (fun _ hk => ⟨hk.1.1, hk.1.2⟩)⟩
   have n1_ : Aside0 (((w7.setCell ⟨gb297, 0, none⟩ (.bool t293)).setCell ⟨gb297, 1, none⟩ (.slice Ao10 t294.length co10)).heap[gb292]? = some (.cells #[.bool a0_0, .slice A0_1 l0_1.length c0_1] 27 (0, 0))) := ⟨by (with_reducible repeat (first | refine blk_drewN ?_ _ | refine blk_drew ?_ | refine blk_alloc ?_ _)); refine blk_far ?_ NB292_297.out _; (with_reducible repeat (first | refine blk_drewN ?_ _ | refine blk_drew ?_ | refine blk_alloc ?_ _)); refine blk_far ?_ NB292_297.out _; (with_reducible repeat (first | refine blk_drewN ?_ _ | refine blk_drew ?_ | refine blk_alloc ?_ _)); exact BK292.out⟩
   have n2_ : Aside0 (((w7.setCell ⟨gb297, 0, none⟩ (.bool t293)).setCell ⟨gb297, 1, none⟩ (.slice Ao10 t294.length co10)).heap[gb297]? = some (.cells #[.bool t293, .slice Ao10 t294.length co10] 27 (0, 0))) := ⟨by (with_reducible repeat (first | refine blk_drewN ?_ _ | refine blk_drew ?_ | refine blk_alloc ?_ _)); refine blk_put (cs := #[.bool t293, .slice none 0 0]) ?_ 1 _ rfl; (with_reducible repeat (first | refine blk_drewN ?_ _ | refine blk_drew ?_ | refine blk_alloc ?_ _)); refine blk_put (cs := #[.bool false, .slice none 0 0]) ?_ 0 _ rfl; (with_reducible repeat (first | refine blk_drewN ?_ _ | refine blk_drew ?_ | refine blk_alloc ?_ _)); exact BK297.out⟩
   have n3_ : Aside0 (Below w.heap.size w ((w7.setCell ⟨gb297, 0, none⟩ (.bool t293)).setCell ⟨gb297, 1, none⟩ (.slice Ao10 t294.length co10))) := ⟨by repeat (first | (with_reducible first | exact HB.out | apply below_alloc | apply pw_below_drewN | apply below_drew1 | refine below_set ?_ GE292.out | refine below_set ?_ GE297.out) | exact HB.out)⟩
   (try clear HO296)
   (try clear BK292)
   (try clear BK297)
   (try clear HB)
   generalize ((w7.setCell ⟨gb297, 0, none⟩ (.bool t293)).setCell ⟨gb297, 1, none⟩ (.slice Ao10 t294.length co10)) = w15 at n0_ n1_ n2_ n3_ ⊢
   have HO296 := n0_
   have BK292 := n1_
   have BK297 := n2_
   have HB := n3_
   clear n0_ n1_ n2_ n3_
   have n0_ := Aside0.mk (Kd.V_drew HO296.out)
   have n1_ := Aside0.mk (blk_drew BK292.out)
   have n2_ := Aside0.mk (blk_drew BK297.out)
   have n3_ := Aside0.mk (below_drew1 HB.out)
   clear HO296 BK292 BK297 HB
   have HO296 := n0_
   have BK292 := n1_
   have BK297 := n2_
   have HB := n3_
   clear n0_ n1_ n2_ n3_
   refine start_ (n := 12) (S := fun w' => w'.cell? ⟨gb292, 0, none⟩ = some (.bool a0_0) ∧ w'.cell? ⟨gb292, 1, none⟩ = some (.slice A0_1 l0_1.length c0_1) ∧ w'.cell? ⟨gb297, 0, none⟩ = some (.bool t293) ∧ w'.cell? ⟨gb297, 1, none⟩ = some (.slice Ao10 t294.length co10)) (ds := []) #[false, false, false, false, false, false, false, false, false, false, false, false] (by kernel_rfl) rfl rfl ⟨(blk_cell BK292.out 0).trans rfl, (blk_cell BK292.out 1).trans rfl, (blk_cell BK297.out 0).trans rfl, (blk_cell BK297.out 1).trans rfl⟩ (fun hHeld => ?_); refine with_tabW spec_ToWords.tab2 spec_ToWords.bits2 (fun HT_ HW_ => ?_)
   generalize w15.drew = w16 at HO296 BK292 BK297 HB hHeld ⊢
   refine take_ (i := 0) (N := some 17) (v := ?_) (a' := ?_) #[true, false, false, false, false, false, false, false, false, false, false, false] rfl rfl (take_ofW HT_.out HW_.out (by kernel_rfl)) (fun _ _ _ h => h) (Or.inl ⟨by rfl, ?_⟩) hHeld ?_ ?_
   rotate_left
   ·rintro w' ⟨s0, s1, s2, s3⟩
    go_simp
    with_reducible rfl
   rotate_left
   ·simp only [Act.put, List.setIfInBounds_toArray, List.set_cons_zero, List.set_cons_succ, i64_w, i32_w]
    rfl
   refine take_ (i := 1) (N := some 18) (v := ?_) (a' := ?_) #[true, true, false, false, false, false, false, false, false, false, false, false] rfl rfl (take_ofW HT_.out HW_.out (by kernel_rfl)) (fun _ _ _ h => h) (Or.inl ⟨by rfl, ?_⟩) hHeld ?_ ?_
   rotate_left
   ·rintro w' ⟨s0, s1, s2, s3⟩
    go_simp
    with_reducible rfl
   rotate_left
   ·simp only [Act.put, List.setIfInBounds_toArray, List.set_cons_zero, List.set_cons_succ, i64_w, i32_w]
    rfl
   refine one_ (i := 2) (N := some 19) #[true, true, true, false, false, false, false, false, false, false, false, false] rfl rfl (one_of HT_.out (by kernel_rfl)) (by decide) (fun K hK => ?_)
   refine goes_ Try.func37 (by kernel_rfl) rfl #[.agg #[.bool a0_0, .slice A0_1 l0_1.length c0_1], .agg #[.bool t293, .slice Ao10 t294.length co10]] (by rfl) rfl rfl (by (try simp only [List.map_toArray, List.map_cons, List.map_nil]); first | done | rfl | (simp only [List.length_drop, List.length_take]; rfl)) ?_
   with_reducible refine (spec_WideCmp.calls k a0_0 _ _ l0_1 t293 _ _ t294 t298 _ ?side1 ?side2 ?side3 ?side4 A11.out).mono ?_
   (case side1 => repeat (first | exact (Kd.C_below HR0_1.out HB.out) | (with_reducible refine Kd.C_alloc ?_ _) | (with_reducible refine Kd.C_drewN ?_ _) | (with_reducible refine Kd.C_drew ?_)))
   (case side2 => exact HC0_1.out)
   (case side3 => repeat (first | exact (Kd.V_reads' HO296.out).2.2 | (with_reducible refine Kd.C_alloc ?_ _) | (with_reducible refine Kd.C_drewN ?_ _) | (with_reducible refine Kd.C_drew ?_)))
   (case side4 => exact (Kd.V_reads' HO296.out).2.1)
   rintro e w17 ⟨rfl, hb⟩
   refine ⟨_, rfl, ?_⟩
   have n0_ := Aside0.mk (Kd.V_below (by (with_reducible repeat (first | apply Kd.V_alloc | apply Kd.V_drewN | apply Kd.V_drew)); exact HO296.out) hb)
   have n1_ := Aside0.mk (blk_below (g := gb292) (o := .cells #[.bool a0_0, .slice A0_1 l0_1.length c0_1] 27 (0, 0)) (by (with_reducible repeat (first | refine blk_drewN ?_ _ | refine blk_drew ?_ | refine blk_alloc ?_ _)); exact BK292.out) hb)
   have n2_ := Aside0.mk (blk_below (g := gb297) (o := .cells #[.bool t293, .slice Ao10 t294.length co10] 27 (0, 0)) (by (with_reducible repeat (first | refine blk_drewN ?_ _ | refine blk_drew ?_ | refine blk_alloc ?_ _)); exact BK297.out) hb)
   have n3_ := Aside0.mk (below_step (by repeat (first | (with_reducible first | exact HB.out | apply below_alloc | apply pw_below_drewN | apply below_drew1 | refine below_set ?_ GE292.out | refine below_set ?_ GE297.out) | exact HB.out)) hb)
   clear HO296 BK292 BK297 HB
   have HO296 := n0_
   have BK292 := n1_
   have BK297 := n2_
   have HB := n3_
   clear n0_ n1_ n2_ n3_
   (try clear hb)
   (try clear hb2)
   (try clear hk)
   (try clear hi)
   refine hK.out _ _ ⟨(blk_cell BK292.out 0).trans rfl, (blk_cell BK292.out 1).trans rfl, (blk_cell BK297.out 0).trans rfl, (blk_cell BK297.out 1).trans rfl⟩ (fun hHeld => ?_)
   clear hK K
   refine norm_ (a' := ?_) ?_ ?_
   rotate_left
   ·show Act.put _ (some 19) _ = _
    simp only [Act.put, List.setIfInBounds_toArray, List.set_cons_zero, List.set_cons_succ, i64_w, i32_w]
    rfl
   refine pure_ (i := 3) (N := some 20) (v := ?_) (a' := ?_) #[true, true, true, true, false, false, false, false, false, false, false, false] rfl rfl (any_of HT_.out (by kernel_rfl)) (fun _ _ _ h => h) (Or.inl ⟨by rfl, ?_⟩) ?_ ?_
   rotate_left
   ·intro w'
    go_simp
    with_reducible rfl
   rotate_left
   ·simp only [Act.put, List.setIfInBounds_toArray, List.set_cons_zero, List.set_cons_succ, i64_w, i32_w]
    rfl
   refine pure_ (i := 4) (N := some 21) (v := ?_) (a' := ?_) #[true, true, true, true, true, false, false, false, false, false, false, false] rfl rfl (any_of HT_.out (by kernel_rfl)) (fun _ _ _ h => h) (Or.inl ⟨by rfl, ?_⟩) ?_ ?_
   rotate_left
   ·intro w'
    go_simp
    with_reducible rfl
   rotate_left
   ·simp only [Act.put, List.setIfInBounds_toArray, List.set_cons_zero, List.set_cons_succ, i64_w, i32_w]
    rfl
   refine take_ (i := 5) (N := some 22) (v := ?_) (a' := ?_) #[true, true, true, true, true, true, false, false, false, false, false, false] rfl rfl (take_ofW HT_.out HW_.out (by kernel_rfl)) (fun _ _ _ h => h) (Or.inl ⟨by rfl, ?_⟩) hHeld ?_ ?_
   rotate_left
   ·rintro w' ⟨s0, s1, s2, s3⟩
    go_simp
    with_reducible rfl
   rotate_left
   ·simp only [Act.put, List.setIfInBounds_toArray, List.set_cons_zero, List.set_cons_succ, i64_w, i32_w]
    rfl
   refine take_ (i := 6) (N := some 23) (v := ?_) (a' := ?_) #[true, true, true, true, true, true, true, false, false, false, false, false] rfl rfl (take_ofW HT_.out HW_.out (by kernel_rfl)) (fun _ _ _ h => h) (Or.inl ⟨by rfl, ?_⟩) hHeld ?_ ?_
   rotate_left
   ·rintro w' ⟨s0, s1, s2, s3⟩
    go_simp
    with_reducible rfl
   rotate_left
   ·simp only [Act.put, List.setIfInBounds_toArray, List.set_cons_zero, List.set_cons_succ, i64_w, i32_w]
    rfl
   refine one_ (i := 7) (N := some 24) #[true, true, true, true, true, true, true, true, false, false, false, false] rfl rfl (one_of HT_.out (by kernel_rfl)) (by decide) (fun K hK => ?_)
   refine goes_ Try.func38 (by kernel_rfl) rfl #[.agg #[.bool t293, .slice Ao10 t294.length co10]] (by rfl) rfl rfl (by (try simp only [List.map_toArray, List.map_cons, List.map_nil]); first | done | rfl | (simp only [List.length_drop, List.length_take]; rfl)) ?_
   with_reducible refine (spec_Wide_Negated.calls k t293 (fun k_ => (k_ ≠ gb292 ∧ k_ ≠ gb297)) _ _ t294 t299 t300 _ ?side1 A13.out).mono ?_
   (case side1 => exact HO296.out)
   rintro e w18 ⟨v301, rfl, ho0, hb⟩
   refine ⟨_, rfl, ?_⟩
   have n0_ := Aside0.mk (Kd.V_below (by (with_reducible repeat (first | apply Kd.V_alloc | apply Kd.V_drewN | apply Kd.V_drew)); exact HO296.out) hb)
   have n1_ := Aside0.mk (Kd.V_lower (Kd.V_mono (ok' := fun k_ => k_ ≠ gb292 ∧ k_ ≠ gb297) ho0 (fun k_ hk_ => ⟨Or.elim hk_ (fun hs_ => hs_.1) (fun hn_ => (Kd.freshB (g := gb292) (o := .cells #[.bool a0_0, .slice A0_1 l0_1.length c0_1] 27 (0, 0)) (by (with_reducible repeat (first | refine blk_drewN ?_ _ | refine blk_drew ?_ | refine blk_alloc ?_ _)); exact BK292.out) k_ hn_)), Or.elim hk_ (fun hs_ => hs_.2) (fun hn_ => (Kd.freshB (g := gb297) (o := .cells #[.bool t293, .slice Ao10 t294.length co10] 27 (0, 0)) (by (with_reducible repeat (first | refine blk_drewN ?_ _ | refine blk_drew ?_ | refine blk_alloc ?_ _)); exact BK297.out) k_ hn_))⟩)) (below_size (by repeat (first | (with_reducible first | exact HB.out | apply below_alloc | apply pw_below_drewN | apply below_drew1 | refine below_set ?_ GE292.out | refine below_set ?_ GE297.out) | exact HB.out))))
   have n2_ := Aside0.mk (blk_below (g := gb292) (o := .cells #[.bool a0_0, .slice A0_1 l0_1.length c0_1] 27 (0, 0)) (by (with_reducible repeat (first | refine blk_drewN ?_ _ | refine blk_drew ?_ | refine blk_alloc ?_ _)); exact BK292.out) hb)
   have n3_ := Aside0.mk (blk_below (g := gb297) (o := .cells #[.bool t293, .slice Ao10 t294.length co10] 27 (0, 0)) (by (with_reducible repeat (first | refine blk_drewN ?_ _ | refine blk_drew ?_ | refine blk_alloc ?_ _)); exact BK297.out) hb)
   have n4_ := Aside0.mk (below_step (by repeat (first | (with_reducible first | exact HB.out | apply below_alloc | apply pw_below_drewN | apply below_drew1 | refine below_set ?_ GE292.out | refine below_set ?_ GE297.out) | exact HB.out)) hb)
   clear HO296 BK292 BK297 HB
   have HO296 := n0_
   have HO302 := n1_
   have BK292 := n2_
   have BK297 := n3_
   have HB := n4_
   clear n0_ n1_ n2_ n3_ n4_
   (try clear hb)
   (try clear hb2)
   (try clear hk)
   (try clear hi)
   (try clear ho0)
   obtain ⟨Ao19, co19, eo19⟩ := Kd.V_slice HO302.out
   (first | subst eo19 | (injection eo19 with f1_ f2_ f3_; have f4_ := f1_.symm; have f5_ := f3_.symm; clear f1_ f2_ f3_; subst f4_; subst f5_))
   refine hK.out _ _ ⟨(blk_cell BK292.out 0).trans rfl, (blk_cell BK292.out 1).trans rfl, (blk_cell BK297.out 0).trans rfl, (blk_cell BK297.out 1).trans rfl⟩ (fun hHeld => ?_)
   clear hK K
   refine norm_ (a' := ?_) ?_ ?_
   rotate_left
   ·show Act.put _ (some 24) _ = _
    simp only [Act.put, List.setIfInBounds_toArray, List.set_cons_zero, List.set_cons_succ, i64_w, i32_w]
    rfl
   refine one_ (i := 8) (N := some 25) #[true, true, true, true, true, true, true, true, true, false, false, false] rfl rfl (one_of HT_.out (by kernel_rfl)) (by decide) (fun K hK => ?_)
   refine goes_ Try.func37 (by kernel_rfl) rfl #[.agg #[.bool a0_0, .slice A0_1 l0_1.length c0_1], .agg #[.bool t299, .slice Ao19 t300.length co19]] (by rfl) rfl rfl (by (try simp only [List.map_toArray, List.map_cons, List.map_nil]); first | done | rfl | (simp only [List.length_drop, List.length_take]; rfl)) ?_
   with_reducible refine (spec_WideCmp.calls k a0_0 _ _ l0_1 t299 _ _ t300 t303 _ ?side1 ?side2 ?side3 ?side4 A14.out).mono ?_
   (case side1 => repeat (first | exact (Kd.C_below HR0_1.out HB.out) | (with_reducible refine Kd.C_alloc ?_ _) | (with_reducible refine Kd.C_drewN ?_ _) | (with_reducible refine Kd.C_drew ?_)))
   (case side2 => exact HC0_1.out)
   (case side3 => repeat (first | exact (Kd.V_reads' HO302.out).2.2 | (with_reducible refine Kd.C_alloc ?_ _) | (with_reducible refine Kd.C_drewN ?_ _) | (with_reducible refine Kd.C_drew ?_)))
   (case side4 => exact (Kd.V_reads' HO302.out).2.1)
   rintro e w20 ⟨rfl, hb⟩
   refine ⟨_, rfl, ?_⟩
   have n0_ := Aside0.mk (Kd.V_below (by (with_reducible repeat (first | apply Kd.V_alloc | apply Kd.V_drewN | apply Kd.V_drew)); exact HO296.out) hb)
   have n1_ := Aside0.mk (Kd.V_below (by (with_reducible repeat (first | apply Kd.V_alloc | apply Kd.V_drewN | apply Kd.V_drew)); exact HO302.out) hb)
   have n2_ := Aside0.mk (blk_below (g := gb292) (o := .cells #[.bool a0_0, .slice A0_1 l0_1.length c0_1] 27 (0, 0)) (by (with_reducible repeat (first | refine blk_drewN ?_ _ | refine blk_drew ?_ | refine blk_alloc ?_ _)); exact BK292.out) hb)
   have n3_ := Aside0.mk (blk_below (g := gb297) (o := .cells #[.bool t293, .slice Ao10 t294.length co10] 27 (0, 0)) (by (with_reducible repeat (first | refine blk_drewN ?_ _ | refine blk_drew ?_ | refine blk_alloc ?_ _)); exact BK297.out) hb)
   have n4_ := Aside0.mk (below_step (by repeat (first | (with_reducible first | exact HB.out | apply below_alloc | apply pw_below_drewN | apply below_drew1 | refine below_set ?_ GE292.out | refine below_set ?_ GE297.out) | exact HB.out)) hb)
   clear HO296 HO302 BK292 BK297 HB
   have HO296 := n0_
   have HO302 := n1_
   have BK292 := n2_
   have BK297 := n3_
   have HB := n4_
   clear n0_ n1_ n2_ n3_ n4_
   (try clear hb)
   (try clear hb2)
   (try clear hk)
   (try clear hi)
   refine hK.out _ _ ⟨(blk_cell BK292.out 0).trans rfl, (blk_cell BK292.out 1).trans rfl, (blk_cell BK297.out 0).trans rfl, (blk_cell BK297.out 1).trans rfl⟩ (fun hHeld => ?_)
   clear hK K
   refine norm_ (a' := ?_) ?_ ?_
   rotate_left
   ·show Act.put _ (some 25) _ = _
    simp only [Act.put, List.setIfInBounds_toArray, List.set_cons_zero, List.set_cons_succ, i64_w, i32_w]
    rfl
   refine pure_ (i := 9) (N := some 26) (v := ?_) (a' := ?_) #[true, true, true, true, true, true, true, true, true, true, false, false] rfl rfl (any_of HT_.out (by kernel_rfl)) (fun _ _ _ h => h) (Or.inl ⟨by rfl, ?_⟩) ?_ ?_
   rotate_left
   ·intro w'
    go_simp
    with_reducible rfl
   rotate_left
   ·simp only [Act.put, List.setIfInBounds_toArray, List.set_cons_zero, List.set_cons_succ, i64_w, i32_w]
    rfl
   refine pure_ (i := 10) (N := some 27) (v := ?_) (a' := ?_) #[true, true, true, true, true, true, true, true, true, true, true, false] rfl rfl (any_of HT_.out (by kernel_rfl)) (fun _ _ _ h => h) (Or.inl ⟨by rfl, ?_⟩) ?_ ?_
   rotate_left
   ·intro w'
    go_simp
    with_reducible rfl
   rotate_left
   ·simp only [Act.put, List.setIfInBounds_toArray, List.set_cons_zero, List.set_cons_succ, i64_w, i32_w]
    rfl
   refine pure_ (i := 11) (N := some 7) (v := ?_) (a' := ?_) #[true, true, true, true, true, true, true, true, true, true, true, true] rfl rfl (any_of HT_.out (by kernel_rfl)) (fun _ _ _ h => h) (Or.inl ⟨by rfl, ?_⟩) ?_ ?_
   rotate_left
   ·intro w'
    go_simp
    with_reducible rfl
   rotate_left
   ·simp only [Act.put, List.setIfInBounds_toArray, List.set_cons_zero, List.set_cons_succ, i64_w, i32_w]
    rfl
   refine done_ (done_of HT_.out (by kernel_rfl)) ?_
   try go_wp2
   go_meet
   case rel => exact ⟨_, (decide (t303 ≥ 0)), (by first | rfl | (simp; done) | (simp [*]; done)), H', ⟨by first | omega | exact Nat.le_refl _⟩, ⟨by (with_reducible repeat (first | apply Kd.V_alloc | apply Kd.V_drewN | apply Kd.V_drew)); exact HO296.out⟩, ⟨by (with_reducible repeat (first | refine blk_drewN ?_ _ | refine blk_drew ?_ | refine blk_alloc ?_ _)); exact BK292.out⟩, ⟨by (with_reducible repeat (first | refine blk_drewN ?_ _ | refine blk_drew ?_ | refine blk_alloc ?_ _)); exact BK297.out⟩, ⟨by repeat (first | (with_reducible first | exact HB.out | apply below_alloc | apply pw_below_drewN | apply below_drew1 | refine below_set ?_ GE292.out | refine below_set ?_ GE297.out) | exact HB.out)⟩⟩
  ·rw [if_neg c12] at H
   have c12b0 : decide (t298 < 0) = false := decide_eq_false c12
   clear c12
   (first | rw [c12b0] | (simp only [i64_w, i32_w]; rw [c12b0]) | skip)
   have H' := Aside0.mk H
   clear H
   try go_wp2
   have n0_ : Aside0 (Kd.V (Kd.int .u32) 44 ((w7.setCell ⟨gb297, 0, none⟩ (.bool t293)).setCell ⟨gb297, 1, none⟩ (.slice Ao10 t294.length co10)) w.heap.size (fun k_ => k_ ≠ gb292 ∧ k_ ≠ gb297) (.slice Ao10 t294.length co10) t294) := ⟨by (with_reducible repeat (first | apply Kd.V_alloc | apply Kd.V_drewN | apply Kd.V_drew)); exact Kd.V_mono (Kd.V_far (p := ⟨gb297, 1, none⟩) (Kd.V_far (p := ⟨gb297, 0, none⟩) (Kd.V_mono HO296.out (fun k_ hk => (⟨hk, hk.2⟩ : _ ∧ k_ ≠ gb297))) (fun _ hk => hk.2) (.bool t293)) (fun _ hk => hk.2) (.slice Ao10 t294.length co10)) (fun _ hk => ⟨hk.1.1, hk.1.2⟩)⟩
   have n1_ : Aside0 (((w7.setCell ⟨gb297, 0, none⟩ (.bool t293)).setCell ⟨gb297, 1, none⟩ (.slice Ao10 t294.length co10)).heap[gb292]? = some (.cells #[.bool a0_0, .slice A0_1 l0_1.length c0_1] 27 (0, 0))) := ⟨by (with_reducible repeat (first | refine blk_drewN ?_ _ | refine blk_drew ?_ | refine blk_alloc ?_ _)); refine blk_far ?_ NB292_297.out _; (with_reducible repeat (first | refine blk_drewN ?_ _ | refine blk_drew ?_ | refine blk_alloc ?_ _)); refine blk_far ?_ NB292_297.out _; (with_reducible repeat (first | refine blk_drewN ?_ _ | refine blk_drew ?_ | refine blk_alloc ?_ _)); exact BK292.out⟩
   have n2_ : Aside0 (((w7.setCell ⟨gb297, 0, none⟩ (.bool t293)).setCell ⟨gb297, 1, none⟩ (.slice Ao10 t294.length co10)).heap[gb297]? = some (.cells #[.bool t293, .slice Ao10 t294.length co10] 27 (0, 0))) := ⟨by (with_reducible repeat (first | refine blk_drewN ?_ _ | refine blk_drew ?_ | refine blk_alloc ?_ _)); refine blk_put (cs := #[.bool t293, .slice none 0 0]) ?_ 1 _ rfl; (with_reducible repeat (first | refine blk_drewN ?_ _ | refine blk_drew ?_ | refine blk_alloc ?_ _)); refine blk_put (cs := #[.bool false, .slice none 0 0]) ?_ 0 _ rfl; (with_reducible repeat (first | refine blk_drewN ?_ _ | refine blk_drew ?_ | refine blk_alloc ?_ _)); exact BK297.out⟩
   have n3_ : Aside0 (Below w.heap.size w ((w7.setCell ⟨gb297, 0, none⟩ (.bool t293)).setCell ⟨gb297, 1, none⟩ (.slice Ao10 t294.length co10))) := ⟨by repeat (first | (with_reducible first | exact HB.out | apply below_alloc | apply pw_below_drewN | apply below_drew1 | refine below_set ?_ GE292.out | refine below_set ?_ GE297.out) | exact HB.out)⟩
   (try clear HO296)
   (try clear BK292)
   (try clear BK297)
   (try clear HB)
   generalize ((w7.setCell ⟨gb297, 0, none⟩ (.bool t293)).setCell ⟨gb297, 1, none⟩ (.slice Ao10 t294.length co10)) = w21 at n0_ n1_ n2_ n3_ ⊢
   have HO296 := n0_
   have BK292 := n1_
   have BK297 := n2_
   have HB := n3_
   clear n0_ n1_ n2_ n3_
   have n0_ := Aside0.mk (Kd.V_drew HO296.out)
   have n1_ := Aside0.mk (blk_drew BK292.out)
   have n2_ := Aside0.mk (blk_drew BK297.out)
   have n3_ := Aside0.mk (below_drew1 HB.out)
   clear HO296 BK292 BK297 HB
   have HO296 := n0_
   have BK292 := n1_
   have BK297 := n2_
   have HB := n3_
   clear n0_ n1_ n2_ n3_
   refine start_ (n := 12) (S := fun w' => w'.cell? ⟨gb292, 0, none⟩ = some (.bool a0_0) ∧ w'.cell? ⟨gb292, 1, none⟩ = some (.slice A0_1 l0_1.length c0_1) ∧ w'.cell? ⟨gb297, 0, none⟩ = some (.bool t293) ∧ w'.cell? ⟨gb297, 1, none⟩ = some (.slice Ao10 t294.length co10)) (ds := []) #[false, false, false, false, false, false, false, false, false, false, false, false] (by kernel_rfl) rfl rfl ⟨(blk_cell BK292.out 0).trans rfl, (blk_cell BK292.out 1).trans rfl, (blk_cell BK297.out 0).trans rfl, (blk_cell BK297.out 1).trans rfl⟩ (fun hHeld => ?_); refine with_tabW spec_ToWords.tab2 spec_ToWords.bits2 (fun HT_ HW_ => ?_)
   generalize w21.drew = w22 at HO296 BK292 BK297 HB hHeld ⊢
   refine take_ (i := 0) (N := some 17) (v := ?_) (a' := ?_) #[true, false, false, false, false, false, false, false, false, false, false, false] rfl rfl (take_ofW HT_.out HW_.out (by kernel_rfl)) (fun _ _ _ h => h) (Or.inl ⟨by rfl, ?_⟩) hHeld ?_ ?_
   rotate_left
   ·rintro w' ⟨s0, s1, s2, s3⟩
    go_simp
    with_reducible rfl
   rotate_left
   ·simp only [Act.put, List.setIfInBounds_toArray, List.set_cons_zero, List.set_cons_succ, i64_w, i32_w]
    rfl
   refine take_ (i := 1) (N := some 18) (v := ?_) (a' := ?_) #[true, true, false, false, false, false, false, false, false, false, false, false] rfl rfl (take_ofW HT_.out HW_.out (by kernel_rfl)) (fun _ _ _ h => h) (Or.inl ⟨by rfl, ?_⟩) hHeld ?_ ?_
   rotate_left
   ·rintro w' ⟨s0, s1, s2, s3⟩
    go_simp
    with_reducible rfl
   rotate_left
   ·simp only [Act.put, List.setIfInBounds_toArray, List.set_cons_zero, List.set_cons_succ, i64_w, i32_w]
    rfl
   refine one_ (i := 2) (N := some 19) #[true, true, true, false, false, false, false, false, false, false, false, false] rfl rfl (one_of HT_.out (by kernel_rfl)) (by decide) (fun K hK => ?_)
   refine goes_ Try.func37 (by kernel_rfl) rfl #[.agg #[.bool a0_0, .slice A0_1 l0_1.length c0_1], .agg #[.bool t293, .slice Ao10 t294.length co10]] (by rfl) rfl rfl (by (try simp only [List.map_toArray, List.map_cons, List.map_nil]); first | done | rfl | (simp only [List.length_drop, List.length_take]; rfl)) ?_
   with_reducible refine (spec_WideCmp.calls k a0_0 _ _ l0_1 t293 _ _ t294 t298 _ ?side1 ?side2 ?side3 ?side4 A11.out).mono ?_
   (case side1 => repeat (first | exact (Kd.C_below HR0_1.out HB.out) | (with_reducible refine Kd.C_alloc ?_ _) | (with_reducible refine Kd.C_drewN ?_ _) | (with_reducible refine Kd.C_drew ?_)))
   (case side2 => exact HC0_1.out)
   (case side3 => repeat (first | exact (Kd.V_reads' HO296.out).2.2 | (with_reducible refine Kd.C_alloc ?_ _) | (with_reducible refine Kd.C_drewN ?_ _) | (with_reducible refine Kd.C_drew ?_)))
   (case side4 => exact (Kd.V_reads' HO296.out).2.1)
   rintro e w23 ⟨rfl, hb⟩
   refine ⟨_, rfl, ?_⟩
   have n0_ := Aside0.mk (Kd.V_below (by (with_reducible repeat (first | apply Kd.V_alloc | apply Kd.V_drewN | apply Kd.V_drew)); exact HO296.out) hb)
   have n1_ := Aside0.mk (blk_below (g := gb292) (o := .cells #[.bool a0_0, .slice A0_1 l0_1.length c0_1] 27 (0, 0)) (by (with_reducible repeat (first | refine blk_drewN ?_ _ | refine blk_drew ?_ | refine blk_alloc ?_ _)); exact BK292.out) hb)
   have n2_ := Aside0.mk (blk_below (g := gb297) (o := .cells #[.bool t293, .slice Ao10 t294.length co10] 27 (0, 0)) (by (with_reducible repeat (first | refine blk_drewN ?_ _ | refine blk_drew ?_ | refine blk_alloc ?_ _)); exact BK297.out) hb)
   have n3_ := Aside0.mk (below_step (by repeat (first | (with_reducible first | exact HB.out | apply below_alloc | apply pw_below_drewN | apply below_drew1 | refine below_set ?_ GE292.out | refine below_set ?_ GE297.out) | exact HB.out)) hb)
   clear HO296 BK292 BK297 HB
   have HO296 := n0_
   have BK292 := n1_
   have BK297 := n2_
   have HB := n3_
   clear n0_ n1_ n2_ n3_
   (try clear hb)
   (try clear hb2)
   (try clear hk)
   (try clear hi)
   refine hK.out _ _ ⟨(blk_cell BK292.out 0).trans rfl, (blk_cell BK292.out 1).trans rfl, (blk_cell BK297.out 0).trans rfl, (blk_cell BK297.out 1).trans rfl⟩ (fun hHeld => ?_)
   clear hK K
   refine norm_ (a' := ?_) ?_ ?_
   rotate_left
   ·show Act.put _ (some 19) _ = _
    simp only [Act.put, List.setIfInBounds_toArray, List.set_cons_zero, List.set_cons_succ, i64_w, i32_w]
    rfl
   refine pure_ (i := 3) (N := some 20) (v := ?_) (a' := ?_) #[true, true, true, true, false, false, false, false, false, false, false, false] rfl rfl (any_of HT_.out (by kernel_rfl)) (fun _ _ _ h => h) (Or.inl ⟨by rfl, ?_⟩) ?_ ?_
   rotate_left
   ·intro w'
    go_simp
    with_reducible rfl
   rotate_left
   ·simp only [Act.put, List.setIfInBounds_toArray, List.set_cons_zero, List.set_cons_succ, i64_w, i32_w]
    rfl
   refine pure_ (i := 4) (N := some 21) (v := ?_) (a' := ?_) #[true, true, true, true, true, false, false, false, false, false, false, false] rfl rfl (any_of HT_.out (by kernel_rfl)) (fun _ _ _ h => h) (Or.inl ⟨by rfl, ?_⟩) ?_ ?_
   rotate_left
   ·intro w'
    go_simp
    with_reducible rfl
   rotate_left
   ·simp only [Act.put, List.setIfInBounds_toArray, List.set_cons_zero, List.set_cons_succ, i64_w, i32_w]
    rfl
   refine pure_ (i := 5) (N := some 22) (v := undef) (a' := ?_) #[true, true, true, true, true, true, false, false, false, false, false, false] rfl rfl (any_of HT_.out (by kernel_rfl)) (fun _ _ _ h => h) (Or.inr ⟨by rfl, rfl⟩) ?_ ?_
   rotate_left
   ·simp only [Act.put, List.setIfInBounds_toArray, List.set_cons_zero, List.set_cons_succ, i64_w, i32_w]
    rfl
   refine pure_ (i := 6) (N := some 23) (v := undef) (a' := ?_) #[true, true, true, true, true, true, true, false, false, false, false, false] rfl rfl (any_of HT_.out (by kernel_rfl)) (fun _ _ _ h => h) (Or.inr ⟨by rfl, rfl⟩) ?_ ?_
   rotate_left
   ·simp only [Act.put, List.setIfInBounds_toArray, List.set_cons_zero, List.set_cons_succ, i64_w, i32_w]
    rfl
   refine pure_ (i := 7) (N := some 24) (v := undef) (a' := ?_) #[true, true, true, true, true, true, true, true, false, false, false, false] rfl rfl (any_of HT_.out (by kernel_rfl)) (fun _ _ _ h => h) (Or.inr ⟨by rfl, rfl⟩) ?_ ?_
   rotate_left
   ·simp only [Act.put, List.setIfInBounds_toArray, List.set_cons_zero, List.set_cons_succ, i64_w, i32_w]
    rfl
   refine pure_ (i := 8) (N := some 25) (v := undef) (a' := ?_) #[true, true, true, true, true, true, true, true, true, false, false, false] rfl rfl (any_of HT_.out (by kernel_rfl)) (fun _ _ _ h => h) (Or.inr ⟨by rfl, rfl⟩) ?_ ?_
   rotate_left
   ·simp only [Act.put, List.setIfInBounds_toArray, List.set_cons_zero, List.set_cons_succ, i64_w, i32_w]
    rfl
   refine pure_ (i := 9) (N := some 26) (v := undef) (a' := ?_) #[true, true, true, true, true, true, true, true, true, true, false, false] rfl rfl (any_of HT_.out (by kernel_rfl)) (fun _ _ _ h => h) (Or.inr ⟨by rfl, rfl⟩) ?_ ?_
   rotate_left
   ·simp only [Act.put, List.setIfInBounds_toArray, List.set_cons_zero, List.set_cons_succ, i64_w, i32_w]
    rfl
   refine pure_ (i := 10) (N := some 27) (v := ?_) (a' := ?_) #[true, true, true, true, true, true, true, true, true, true, true, false] rfl rfl (any_of HT_.out (by kernel_rfl)) (fun _ _ _ h => h) (Or.inl ⟨by rfl, ?_⟩) ?_ ?_
   rotate_left
   ·intro w'
    go_simp
    with_reducible rfl
   rotate_left
   ·simp only [Act.put, List.setIfInBounds_toArray, List.set_cons_zero, List.set_cons_succ, i64_w, i32_w]
    rfl
   refine pure_ (i := 11) (N := some 7) (v := ?_) (a' := ?_) #[true, true, true, true, true, true, true, true, true, true, true, true] rfl rfl (any_of HT_.out (by kernel_rfl)) (fun _ _ _ h => h) (Or.inl ⟨by rfl, ?_⟩) ?_ ?_
   rotate_left
   ·intro w'
    go_simp
    with_reducible rfl
   rotate_left
   ·simp only [Act.put, List.setIfInBounds_toArray, List.set_cons_zero, List.set_cons_succ, i64_w, i32_w]
    rfl
   refine done_ (done_of HT_.out (by kernel_rfl)) ?_
   try go_wp2
   go_meet
   case rel => exact ⟨_, (false), (by first | rfl | (simp; done) | (simp [*]; done)), H', ⟨by first | omega | exact Nat.le_refl _⟩, ⟨by (with_reducible repeat (first | apply Kd.V_alloc | apply Kd.V_drewN | apply Kd.V_drew)); exact HO296.out⟩, ⟨by (with_reducible repeat (first | refine blk_drewN ?_ _ | refine blk_drew ?_ | refine blk_alloc ?_ _)); exact BK292.out⟩, ⟨by (with_reducible repeat (first | refine blk_drewN ?_ _ | refine blk_drew ?_ | refine blk_alloc ?_ _)); exact BK297.out⟩, ⟨by repeat (first | (with_reducible first | exact HB.out | apply below_alloc | apply pw_below_drewN | apply below_drew1 | refine below_set ?_ GE292.out | refine below_set ?_ GE297.out) | exact HB.out)⟩⟩
 case rest =>
  clear HC4
  try clear c1
  try clear p2
  try clear c3
  try clear p6
  try clear c8
  try clear c12
  try clear c12b0
  try clear c15
  try clear hcz9_0
  try clear hcz9_1
  try clear hfz9_0
  try clear hfz9_1
  obtain ⟨kq, x7_3, rfl, HA, HJ3, HO_298001, BK292, BK297, HB⟩ := hcut
  cases kq with
  | zero => exact absurd HA.out (by simp [spec_ToWords.j0])
  | succ kj3 =>
   have H := HA.out
   clear HA
   simp only [spec_ToWords.j0] at H
   have c24 : a0_0 = true := HA_.out
   subst c24
   have H1 : ((spec_Two.f kj3 (wrap64 (64 * a1))).bind fun bt304 => ((spec_WideDiv.f kj3 true l0_1 bt304.1 bt304.2).bind fun bt308 => ((spec_Two.f kj3 (wrap64 (64 * a1))).bind fun bt318 => ((spec_WideAdd.f kj3 bt308.2.2.1 bt308.2.2.2 bt318.1 bt318.2).bind fun bt322 => (if 0 ≤ a1 then (if (a1 : Int).toNat ≤ 35184372088832 then ((some (List.replicate (a1 : Int).toNat 0 : List Int)).bind fun y326 => (spec_ToWords.l0 kj3 x7_3 y326 (y326.length : Int) 0 bt322.1 bt322.2)) else (none)) else (none)))))) = some (r1, r2) := by rw [if_pos rfl] at H; exact H
   clear H
   have H := H1
   clear H1
   replace H := Option.bind_eq_some_iff.mp H
   obtain ⟨⟨t304, t305⟩, A250, H⟩ := H
   replace H : ((spec_WideDiv.f kj3 true l0_1 t304 t305).bind fun bt308 => ((spec_Two.f kj3 (wrap64 (64 * a1))).bind fun bt318 => ((spec_WideAdd.f kj3 bt308.2.2.1 bt308.2.2.2 bt318.1 bt318.2).bind fun bt322 => (if 0 ≤ a1 then (if (a1 : Int).toNat ≤ 35184372088832 then ((some (List.replicate (a1 : Int).toNat 0 : List Int)).bind fun y326 => (spec_ToWords.l0 kj3 x7_3 y326 (y326.length : Int) 0 bt322.1 bt322.2)) else (none)) else (none))))) = some (r1, r2) := H
   have A25 := Aside0.mk A250
   clear A250
   replace H := Option.bind_eq_some_iff.mp H
   obtain ⟨⟨t308, t309, t312, t313⟩, A260, H⟩ := H
   replace H : ((spec_Two.f kj3 (wrap64 (64 * a1))).bind fun bt318 => ((spec_WideAdd.f kj3 t312 t313 bt318.1 bt318.2).bind fun bt322 => (if 0 ≤ a1 then (if (a1 : Int).toNat ≤ 35184372088832 then ((some (List.replicate (a1 : Int).toNat 0 : List Int)).bind fun y326 => (spec_ToWords.l0 kj3 x7_3 y326 (y326.length : Int) 0 bt322.1 bt322.2)) else (none)) else (none)))) = some (r1, r2) := H
   have A26 := Aside0.mk A260
   clear A260
   replace H := Option.bind_eq_some_iff.mp H
   obtain ⟨⟨t318, t319⟩, A270, H⟩ := H
   replace H : ((spec_WideAdd.f kj3 t312 t313 t318 t319).bind fun bt322 => (if 0 ≤ a1 then (if (a1 : Int).toNat ≤ 35184372088832 then ((some (List.replicate (a1 : Int).toNat 0 : List Int)).bind fun y326 => (spec_ToWords.l0 kj3 x7_3 y326 (y326.length : Int) 0 bt322.1 bt322.2)) else (none)) else (none))) = some (r1, r2) := H
   have A27 := Aside0.mk A270
   clear A270
   replace H := Option.bind_eq_some_iff.mp H
   obtain ⟨⟨t322, t323⟩, A280, H⟩ := H
   replace H : (if 0 ≤ a1 then (if (a1 : Int).toNat ≤ 35184372088832 then ((some (List.replicate (a1 : Int).toNat 0 : List Int)).bind fun y326 => (spec_ToWords.l0 kj3 x7_3 y326 (y326.length : Int) 0 t322 t323)) else (none)) else (none)) = some (r1, r2) := H
   have A28 := Aside0.mk A280
   clear A280
   by_cases c29 : 0 ≤ a1
   ·rw [if_pos c29] at H
    have c29b0 := eq_true c29
    have c29b1 : decide (0 ≤ a1) = true := decide_eq_true c29
    clear c29
    by_cases c30 : (a1 : Int).toNat ≤ 35184372088832
    ·rw [if_pos c30] at H
     have c30b0 := eq_true c30
     have c30b1 : decide ((a1 : Int).toNat ≤ 35184372088832) = true := decide_eq_true c30
     clear c30
     obtain ⟨y326, hy326⟩ : ∃ y_ : List Int, y_ = (List.replicate (a1 : Int).toNat 0) := ⟨_, rfl⟩
     replace H : (spec_ToWords.l0 kj3 x7_3 y326 (y326.length : Int) 0 t322 t323) = some (r1, r2) := by first | (rw [hy326]; with_reducible exact H) | (have H2_ := (Option.bind_some _ _).symm.trans H; rw [hy326]; with_reducible exact H2_) | (have H2_ := (Option.bind_some _ _).symm.trans H; with_reducible exact H2_) | with_reducible exact H | (rw [hy326]; exact H) | exact H
     have Ny326 := Aside0.mk hy326
     clear hy326
     have H' := Aside0.mk H
     clear H
     have hnb31 := NB292_297.out
     have hnc31 := NB297_292.out
     have hcz32_0 : wc.cell? ⟨gb292, 0, none⟩ = some (.bool true) := (blk_cell BK292.out 0).trans rfl
     have hcz32_1 : wc.cell? ⟨gb292, 1, none⟩ = some (.slice A0_1 l0_1.length c0_1) := (blk_cell BK292.out 1).trans rfl
     have hfz32_0 := blk_frozen BK292.out 0
     have hfz32_1 := blk_frozen BK292.out 1
     try go_wp2
     have n0_ := Aside0.mk (Kd.V_drew HO_298001.out)
     have n1_ := Aside0.mk (blk_drew BK292.out)
     have n2_ := Aside0.mk (blk_drew BK297.out)
     have n3_ := Aside0.mk (below_drew1 HB.out)
     clear HO_298001 BK292 BK297 HB
     have HO_298001 := n0_
     have BK292 := n1_
     have BK297 := n2_
     have HB := n3_
     clear n0_ n1_ n2_ n3_
     refine start_ (n := 12) (S := fun w' => w'.cell? ⟨gb292, 0, none⟩ = some (.bool true) ∧ w'.cell? ⟨gb292, 1, none⟩ = some (.slice A0_1 l0_1.length c0_1)) (ds := []) #[false, false, false, false, false, false, false, false, false, false, false, false] (by kernel_rfl) rfl rfl ⟨(blk_cell BK292.out 0).trans rfl, (blk_cell BK292.out 1).trans rfl⟩ (fun hHeld => ?_); refine with_tabW spec_ToWords.tab4 spec_ToWords.bits4 (fun HT_ HW_ => ?_)
     generalize wc.drew = w33 at HO_298001 BK292 BK297 HB hHeld ⊢
     refine pure_ (i := 1) (N := some 32) (v := ?_) (a' := ?_) #[false, true, false, false, false, false, false, false, false, false, false, false] rfl rfl (any_of HT_.out (by kernel_rfl)) (fun _ _ _ h => h) (Or.inl ⟨by rfl, ?_⟩) ?_ ?_
     rotate_left
     ·intro w'
      go_simp
      with_reducible rfl
     rotate_left
     ·simp only [Act.put, List.setIfInBounds_toArray, List.set_cons_zero, List.set_cons_succ, i64_w, i32_w]
      rfl
     refine pure_ (i := 2) (N := some 33) (v := ?_) (a' := ?_) #[false, true, true, false, false, false, false, false, false, false, false, false] rfl rfl (any_of HT_.out (by kernel_rfl)) (fun _ _ _ h => h) (Or.inl ⟨by rfl, ?_⟩) ?_ ?_
     rotate_left
     ·intro w'
      go_simp
      with_reducible rfl
     rotate_left
     ·simp only [Act.put, List.setIfInBounds_toArray, List.set_cons_zero, List.set_cons_succ, i64_w, i32_w]
      rfl
     refine take_ (i := 0) (N := some 31) (v := ?_) (a' := ?_) #[true, true, true, false, false, false, false, false, false, false, false, false] rfl rfl (take_ofW HT_.out HW_.out (by kernel_rfl)) (fun _ _ _ h => h) (Or.inl ⟨by rfl, ?_⟩) hHeld ?_ ?_
     rotate_left
     ·rintro w' ⟨s0, s1⟩
      go_simp
      with_reducible rfl
     rotate_left
     ·simp only [Act.put, List.setIfInBounds_toArray, List.set_cons_zero, List.set_cons_succ, i64_w, i32_w]
      rfl
     refine join_ (σ := Value × Value × Value × Nat × Nat) 2 #[true, true, true, true, true, true, true, true, true, true, false, false] (fun s_ => [(34, .agg #[.bool t304, s_.1]), (35, .tuple #[.agg #[.bool t308, s_.2.1], .agg #[.bool t312, s_.2.2.1]]), (8, .pointer (some ⟨s_.2.2.2.1, 0, none⟩)), (9, .pointer (some ⟨s_.2.2.2.2, 0, none⟩)), (30, .tuple #[.agg #[.bool t308, s_.2.1], .agg #[.bool t312, s_.2.2.1]]), (36, .agg #[.bool t308, s_.2.1]), (37, .agg #[.bool t312, s_.2.2.1])]) (fun s_ w' => (w'.cell? ⟨gb292, 0, none⟩ = some (.bool true) ∧ w'.cell? ⟨gb292, 1, none⟩ = some (.slice A0_1 l0_1.length c0_1)) ∧ (Kd.V (Kd.int .u32) 44 w' w.heap.size (fun k_ => k_ ≠ gb292 ∧ k_ ≠ gb297 ∧ k_ ≠ s_.2.2.2.1 ∧ k_ ≠ s_.2.2.2.2) s_.1 t305) ∧ (Kd.V (Kd.int .u32) 44 w' w.heap.size (fun k_ => k_ ≠ gb292 ∧ k_ ≠ gb297 ∧ k_ ≠ s_.2.2.2.1 ∧ k_ ≠ s_.2.2.2.2) s_.2.1 t309) ∧ (Kd.V (Kd.int .u32) 44 w' w.heap.size (fun k_ => k_ ≠ gb292 ∧ k_ ≠ gb297 ∧ k_ ≠ s_.2.2.2.1 ∧ k_ ≠ s_.2.2.2.2) s_.2.2.1 t313) ∧ (Kd.V (Kd.int .u32) 44 w' w.heap.size (fun k_ => k_ ≠ gb292 ∧ k_ ≠ gb297 ∧ k_ ≠ s_.2.2.2.1 ∧ k_ ≠ s_.2.2.2.2) (.slice Ao10 t294.length co10) t294) ∧ (w'.heap[gb292]? = some (.cells #[.bool true, .slice A0_1 l0_1.length c0_1] 27 (0, 0))) ∧ (w'.heap[gb297]? = some (.cells #[.bool t293, .slice Ao10 t294.length co10] 27 (0, 0))) ∧ (w'.heap[s_.2.2.2.1]? = some (.cells #[.bool false, .slice none 0 0] 27 (0, 0))) ∧ (w'.heap[s_.2.2.2.2]? = some (.cells #[.bool false, .slice none 0 0] 27 (0, 0))) ∧ (w.heap.size ≤ s_.2.2.2.1) ∧ (w.heap.size ≤ s_.2.2.2.1) ∧ (gb292 ≠ s_.2.2.2.1) ∧ (s_.2.2.2.1 ≠ gb292) ∧ (gb297 ≠ s_.2.2.2.1) ∧ (s_.2.2.2.1 ≠ gb297) ∧ (s_.2.2.2.2 ≠ s_.2.2.2.1) ∧ (s_.2.2.2.1 ≠ s_.2.2.2.2) ∧ (w.heap.size ≤ s_.2.2.2.2) ∧ (w.heap.size ≤ s_.2.2.2.2) ∧ (gb292 ≠ s_.2.2.2.2) ∧ (s_.2.2.2.2 ≠ gb292) ∧ (gb297 ≠ s_.2.2.2.2) ∧ (s_.2.2.2.2 ≠ gb297) ∧ (Below w.heap.size w w')) ?_ ?_
     rotate_left
     ·intro hJ3_4_8_9
      refine join_ (σ := Value × Value × Value × Nat) 3 #[true, true, true, true, true, true, true, true, true, false, false, false] (fun s_ => [(34, .agg #[.bool t304, s_.1]), (35, .tuple #[.agg #[.bool t308, s_.2.1], .agg #[.bool t312, s_.2.2.1]]), (8, .pointer (some ⟨s_.2.2.2, 0, none⟩)), (30, .tuple #[.agg #[.bool t308, s_.2.1], .agg #[.bool t312, s_.2.2.1]]), (36, .agg #[.bool t308, s_.2.1]), (37, .agg #[.bool t312, s_.2.2.1])]) (fun s_ w' => (w'.cell? ⟨gb292, 0, none⟩ = some (.bool true) ∧ w'.cell? ⟨gb292, 1, none⟩ = some (.slice A0_1 l0_1.length c0_1)) ∧ (Kd.V (Kd.int .u32) 44 w' w.heap.size (fun k_ => k_ ≠ gb292 ∧ k_ ≠ gb297 ∧ k_ ≠ s_.2.2.2) s_.1 t305) ∧ (Kd.V (Kd.int .u32) 44 w' w.heap.size (fun k_ => k_ ≠ gb292 ∧ k_ ≠ gb297 ∧ k_ ≠ s_.2.2.2) s_.2.1 t309) ∧ (Kd.V (Kd.int .u32) 44 w' w.heap.size (fun k_ => k_ ≠ gb292 ∧ k_ ≠ gb297 ∧ k_ ≠ s_.2.2.2) s_.2.2.1 t313) ∧ (Kd.V (Kd.int .u32) 44 w' w.heap.size (fun k_ => k_ ≠ gb292 ∧ k_ ≠ gb297 ∧ k_ ≠ s_.2.2.2) (.slice Ao10 t294.length co10) t294) ∧ (w'.heap[gb292]? = some (.cells #[.bool true, .slice A0_1 l0_1.length c0_1] 27 (0, 0))) ∧ (w'.heap[gb297]? = some (.cells #[.bool t293, .slice Ao10 t294.length co10] 27 (0, 0))) ∧ (w'.heap[s_.2.2.2]? = some (.cells #[.bool false, .slice none 0 0] 27 (0, 0))) ∧ (w.heap.size ≤ s_.2.2.2) ∧ (w.heap.size ≤ s_.2.2.2) ∧ (gb292 ≠ s_.2.2.2) ∧ (s_.2.2.2 ≠ gb292) ∧ (gb297 ≠ s_.2.2.2) ∧ (s_.2.2.2 ≠ gb297) ∧ (Below w.heap.size w w')) ?_ ?_
      rotate_left
      ·intro hJ3_4_8
       refine join_ (σ := Value × Value × Value × Nat) 3 #[true, true, true, true, true, true, true, true, false, true, false, false] (fun s_ => [(34, .agg #[.bool t304, s_.1]), (35, .tuple #[.agg #[.bool t308, s_.2.1], .agg #[.bool t312, s_.2.2.1]]), (9, .pointer (some ⟨s_.2.2.2, 0, none⟩)), (30, .tuple #[.agg #[.bool t308, s_.2.1], .agg #[.bool t312, s_.2.2.1]]), (36, .agg #[.bool t308, s_.2.1]), (37, .agg #[.bool t312, s_.2.2.1])]) (fun s_ w' => (w'.cell? ⟨gb292, 0, none⟩ = some (.bool true) ∧ w'.cell? ⟨gb292, 1, none⟩ = some (.slice A0_1 l0_1.length c0_1)) ∧ (Kd.V (Kd.int .u32) 44 w' w.heap.size (fun k_ => k_ ≠ gb292 ∧ k_ ≠ gb297 ∧ k_ ≠ s_.2.2.2) s_.1 t305) ∧ (Kd.V (Kd.int .u32) 44 w' w.heap.size (fun k_ => k_ ≠ gb292 ∧ k_ ≠ gb297 ∧ k_ ≠ s_.2.2.2) s_.2.1 t309) ∧ (Kd.V (Kd.int .u32) 44 w' w.heap.size (fun k_ => k_ ≠ gb292 ∧ k_ ≠ gb297 ∧ k_ ≠ s_.2.2.2) s_.2.2.1 t313) ∧ (Kd.V (Kd.int .u32) 44 w' w.heap.size (fun k_ => k_ ≠ gb292 ∧ k_ ≠ gb297 ∧ k_ ≠ s_.2.2.2) (.slice Ao10 t294.length co10) t294) ∧ (w'.heap[gb292]? = some (.cells #[.bool true, .slice A0_1 l0_1.length c0_1] 27 (0, 0))) ∧ (w'.heap[gb297]? = some (.cells #[.bool t293, .slice Ao10 t294.length co10] 27 (0, 0))) ∧ (w'.heap[s_.2.2.2]? = some (.cells #[.bool false, .slice none 0 0] 27 (0, 0))) ∧ (w.heap.size ≤ s_.2.2.2) ∧ (w.heap.size ≤ s_.2.2.2) ∧ (gb292 ≠ s_.2.2.2) ∧ (s_.2.2.2 ≠ gb292) ∧ (gb297 ≠ s_.2.2.2) ∧ (s_.2.2.2 ≠ gb297) ∧ (Below w.heap.size w w')) ?_ ?_
       rotate_left
       ·intro hJ3_4_9
        refine join_ (σ := Value × Nat × Nat) 6 #[true, true, true, true, false, false, false, false, true, true, false, false] (fun s_ => [(34, .agg #[.bool t304, s_.1]), (8, .pointer (some ⟨s_.2.1, 0, none⟩)), (9, .pointer (some ⟨s_.2.2, 0, none⟩))]) (fun s_ w' => (w'.cell? ⟨gb292, 0, none⟩ = some (.bool true) ∧ w'.cell? ⟨gb292, 1, none⟩ = some (.slice A0_1 l0_1.length c0_1)) ∧ (Kd.V (Kd.int .u32) 44 w' w.heap.size (fun k_ => k_ ≠ gb292 ∧ k_ ≠ gb297 ∧ k_ ≠ s_.2.1 ∧ k_ ≠ s_.2.2) s_.1 t305) ∧ (Kd.V (Kd.int .u32) 44 w' w.heap.size (fun k_ => k_ ≠ gb292 ∧ k_ ≠ gb297 ∧ k_ ≠ s_.2.1 ∧ k_ ≠ s_.2.2) (.slice Ao10 t294.length co10) t294) ∧ (w'.heap[gb292]? = some (.cells #[.bool true, .slice A0_1 l0_1.length c0_1] 27 (0, 0))) ∧ (w'.heap[gb297]? = some (.cells #[.bool t293, .slice Ao10 t294.length co10] 27 (0, 0))) ∧ (w'.heap[s_.2.1]? = some (.cells #[.bool false, .slice none 0 0] 27 (0, 0))) ∧ (w'.heap[s_.2.2]? = some (.cells #[.bool false, .slice none 0 0] 27 (0, 0))) ∧ (w.heap.size ≤ s_.2.1) ∧ (w.heap.size ≤ s_.2.1) ∧ (gb292 ≠ s_.2.1) ∧ (s_.2.1 ≠ gb292) ∧ (gb297 ≠ s_.2.1) ∧ (s_.2.1 ≠ gb297) ∧ (s_.2.2 ≠ s_.2.1) ∧ (s_.2.1 ≠ s_.2.2) ∧ (w.heap.size ≤ s_.2.2) ∧ (w.heap.size ≤ s_.2.2) ∧ (gb292 ≠ s_.2.2) ∧ (s_.2.2 ≠ gb292) ∧ (gb297 ≠ s_.2.2) ∧ (s_.2.2 ≠ gb297) ∧ (Below w.heap.size w w')) ?_ ?_
        rotate_left
        ·intro hJ3_8_9
         refine join_ (σ := Value × Value × Value) 4 #[true, true, true, true, true, true, true, true, false, false, false, false] (fun s_ => [(34, .agg #[.bool t304, s_.1]), (35, .tuple #[.agg #[.bool t308, s_.2.1], .agg #[.bool t312, s_.2.2]]), (30, .tuple #[.agg #[.bool t308, s_.2.1], .agg #[.bool t312, s_.2.2]]), (36, .agg #[.bool t308, s_.2.1]), (37, .agg #[.bool t312, s_.2.2])]) (fun s_ w' => (w'.cell? ⟨gb292, 0, none⟩ = some (.bool true) ∧ w'.cell? ⟨gb292, 1, none⟩ = some (.slice A0_1 l0_1.length c0_1)) ∧ (Kd.V (Kd.int .u32) 44 w' w.heap.size (fun k_ => k_ ≠ gb292 ∧ k_ ≠ gb297) s_.1 t305) ∧ (Kd.V (Kd.int .u32) 44 w' w.heap.size (fun k_ => k_ ≠ gb292 ∧ k_ ≠ gb297) s_.2.1 t309) ∧ (Kd.V (Kd.int .u32) 44 w' w.heap.size (fun k_ => k_ ≠ gb292 ∧ k_ ≠ gb297) s_.2.2 t313) ∧ (Kd.V (Kd.int .u32) 44 w' w.heap.size (fun k_ => k_ ≠ gb292 ∧ k_ ≠ gb297) (.slice Ao10 t294.length co10) t294) ∧ (w'.heap[gb292]? = some (.cells #[.bool true, .slice A0_1 l0_1.length c0_1] 27 (0, 0))) ∧ (w'.heap[gb297]? = some (.cells #[.bool t293, .slice Ao10 t294.length co10] 27 (0, 0))) ∧ (Below w.heap.size w w')) ?_ ?_
         rotate_left
         ·intro hJ3_4
          refine join_ (σ := Value × Nat) 7 #[true, true, true, true, false, false, false, false, true, false, false, false] (fun s_ => [(34, .agg #[.bool t304, s_.1]), (8, .pointer (some ⟨s_.2, 0, none⟩))]) (fun s_ w' => (w'.cell? ⟨gb292, 0, none⟩ = some (.bool true) ∧ w'.cell? ⟨gb292, 1, none⟩ = some (.slice A0_1 l0_1.length c0_1)) ∧ (Kd.V (Kd.int .u32) 44 w' w.heap.size (fun k_ => k_ ≠ gb292 ∧ k_ ≠ gb297 ∧ k_ ≠ s_.2) s_.1 t305) ∧ (Kd.V (Kd.int .u32) 44 w' w.heap.size (fun k_ => k_ ≠ gb292 ∧ k_ ≠ gb297 ∧ k_ ≠ s_.2) (.slice Ao10 t294.length co10) t294) ∧ (w'.heap[gb292]? = some (.cells #[.bool true, .slice A0_1 l0_1.length c0_1] 27 (0, 0))) ∧ (w'.heap[gb297]? = some (.cells #[.bool t293, .slice Ao10 t294.length co10] 27 (0, 0))) ∧ (w'.heap[s_.2]? = some (.cells #[.bool false, .slice none 0 0] 27 (0, 0))) ∧ (w.heap.size ≤ s_.2) ∧ (w.heap.size ≤ s_.2) ∧ (gb292 ≠ s_.2) ∧ (s_.2 ≠ gb292) ∧ (gb297 ≠ s_.2) ∧ (s_.2 ≠ gb297) ∧ (Below w.heap.size w w')) ?_ ?_
          rotate_left
          ·intro hJ3_8
           refine join_ (σ := Value × Nat) 7 #[true, true, true, true, false, false, false, false, false, true, false, false] (fun s_ => [(34, .agg #[.bool t304, s_.1]), (9, .pointer (some ⟨s_.2, 0, none⟩))]) (fun s_ w' => (w'.cell? ⟨gb292, 0, none⟩ = some (.bool true) ∧ w'.cell? ⟨gb292, 1, none⟩ = some (.slice A0_1 l0_1.length c0_1)) ∧ (Kd.V (Kd.int .u32) 44 w' w.heap.size (fun k_ => k_ ≠ gb292 ∧ k_ ≠ gb297 ∧ k_ ≠ s_.2) s_.1 t305) ∧ (Kd.V (Kd.int .u32) 44 w' w.heap.size (fun k_ => k_ ≠ gb292 ∧ k_ ≠ gb297 ∧ k_ ≠ s_.2) (.slice Ao10 t294.length co10) t294) ∧ (w'.heap[gb292]? = some (.cells #[.bool true, .slice A0_1 l0_1.length c0_1] 27 (0, 0))) ∧ (w'.heap[gb297]? = some (.cells #[.bool t293, .slice Ao10 t294.length co10] 27 (0, 0))) ∧ (w'.heap[s_.2]? = some (.cells #[.bool false, .slice none 0 0] 27 (0, 0))) ∧ (w.heap.size ≤ s_.2) ∧ (w.heap.size ≤ s_.2) ∧ (gb292 ≠ s_.2) ∧ (s_.2 ≠ gb292) ∧ (gb297 ≠ s_.2) ∧ (s_.2 ≠ gb297) ∧ (Below w.heap.size w w')) ?_ ?_
           rotate_left
           ·intro hJ3_9
            refine join_ (σ := Nat × Nat) 7 #[true, true, true, false, false, false, false, false, true, true, false, false] (fun s_ => [(8, .pointer (some ⟨s_.1, 0, none⟩)), (9, .pointer (some ⟨s_.2, 0, none⟩))]) (fun s_ w' => (w'.cell? ⟨gb292, 0, none⟩ = some (.bool true) ∧ w'.cell? ⟨gb292, 1, none⟩ = some (.slice A0_1 l0_1.length c0_1)) ∧ (Kd.V (Kd.int .u32) 44 w' w.heap.size (fun k_ => k_ ≠ gb292 ∧ k_ ≠ gb297 ∧ k_ ≠ s_.1 ∧ k_ ≠ s_.2) (.slice Ao10 t294.length co10) t294) ∧ (w'.heap[gb292]? = some (.cells #[.bool true, .slice A0_1 l0_1.length c0_1] 27 (0, 0))) ∧ (w'.heap[gb297]? = some (.cells #[.bool t293, .slice Ao10 t294.length co10] 27 (0, 0))) ∧ (w'.heap[s_.1]? = some (.cells #[.bool false, .slice none 0 0] 27 (0, 0))) ∧ (w'.heap[s_.2]? = some (.cells #[.bool false, .slice none 0 0] 27 (0, 0))) ∧ (w.heap.size ≤ s_.1) ∧ (w.heap.size ≤ s_.1) ∧ (gb292 ≠ s_.1) ∧ (s_.1 ≠ gb292) ∧ (gb297 ≠ s_.1) ∧ (s_.1 ≠ gb297) ∧ (s_.2 ≠ s_.1) ∧ (s_.1 ≠ s_.2) ∧ (w.heap.size ≤ s_.2) ∧ (w.heap.size ≤ s_.2) ∧ (gb292 ≠ s_.2) ∧ (s_.2 ≠ gb292) ∧ (gb297 ≠ s_.2) ∧ (s_.2 ≠ gb297) ∧ (Below w.heap.size w w')) ?_ ?_
            rotate_left
            ·intro hJ8_9
             refine join_ (σ := Value) 8 #[true, true, true, true, false, false, false, false, false, false, false, false] (fun s_ => [(34, .agg #[.bool t304, s_])]) (fun s_ w' => (w'.cell? ⟨gb292, 0, none⟩ = some (.bool true) ∧ w'.cell? ⟨gb292, 1, none⟩ = some (.slice A0_1 l0_1.length c0_1)) ∧ (Kd.V (Kd.int .u32) 44 w' w.heap.size (fun k_ => k_ ≠ gb292 ∧ k_ ≠ gb297) s_ t305) ∧ (Kd.V (Kd.int .u32) 44 w' w.heap.size (fun k_ => k_ ≠ gb292 ∧ k_ ≠ gb297) (.slice Ao10 t294.length co10) t294) ∧ (w'.heap[gb292]? = some (.cells #[.bool true, .slice A0_1 l0_1.length c0_1] 27 (0, 0))) ∧ (w'.heap[gb297]? = some (.cells #[.bool t293, .slice Ao10 t294.length co10] 27 (0, 0))) ∧ (Below w.heap.size w w')) ?_ ?_
             rotate_left
             ·intro hJ3
              refine join_ (σ := Nat) 8 #[true, true, true, false, false, false, false, false, true, false, false, false] (fun s_ => [(8, .pointer (some ⟨s_, 0, none⟩))]) (fun s_ w' => (w'.cell? ⟨gb292, 0, none⟩ = some (.bool true) ∧ w'.cell? ⟨gb292, 1, none⟩ = some (.slice A0_1 l0_1.length c0_1)) ∧ (Kd.V (Kd.int .u32) 44 w' w.heap.size (fun k_ => k_ ≠ gb292 ∧ k_ ≠ gb297 ∧ k_ ≠ s_) (.slice Ao10 t294.length co10) t294) ∧ (w'.heap[gb292]? = some (.cells #[.bool true, .slice A0_1 l0_1.length c0_1] 27 (0, 0))) ∧ (w'.heap[gb297]? = some (.cells #[.bool t293, .slice Ao10 t294.length co10] 27 (0, 0))) ∧ (w'.heap[s_]? = some (.cells #[.bool false, .slice none 0 0] 27 (0, 0))) ∧ (w.heap.size ≤ s_) ∧ (w.heap.size ≤ s_) ∧ (gb292 ≠ s_) ∧ (s_ ≠ gb292) ∧ (gb297 ≠ s_) ∧ (s_ ≠ gb297) ∧ (Below w.heap.size w w')) ?_ ?_
              rotate_left
              ·intro hJ8
               refine join_ (σ := Nat) 8 #[true, true, true, false, false, false, false, false, false, true, false, false] (fun s_ => [(9, .pointer (some ⟨s_, 0, none⟩))]) (fun s_ w' => (w'.cell? ⟨gb292, 0, none⟩ = some (.bool true) ∧ w'.cell? ⟨gb292, 1, none⟩ = some (.slice A0_1 l0_1.length c0_1)) ∧ (Kd.V (Kd.int .u32) 44 w' w.heap.size (fun k_ => k_ ≠ gb292 ∧ k_ ≠ gb297 ∧ k_ ≠ s_) (.slice Ao10 t294.length co10) t294) ∧ (w'.heap[gb292]? = some (.cells #[.bool true, .slice A0_1 l0_1.length c0_1] 27 (0, 0))) ∧ (w'.heap[gb297]? = some (.cells #[.bool t293, .slice Ao10 t294.length co10] 27 (0, 0))) ∧ (w'.heap[s_]? = some (.cells #[.bool false, .slice none 0 0] 27 (0, 0))) ∧ (w.heap.size ≤ s_) ∧ (w.heap.size ≤ s_) ∧ (gb292 ≠ s_) ∧ (s_ ≠ gb292) ∧ (gb297 ≠ s_) ∧ (s_ ≠ gb297) ∧ (Below w.heap.size w w')) ?_ ?_
               rotate_left
               ·intro hJ9
                refine three_ (i := 3) (j := 8) (k := 9) (Ni := some 34) (Nj := some 8) (Nk := some 9) #[true, true, true, true, false, false, false, false, false, false, false, false] #[true, true, true, false, false, false, false, false, true, false, false, false] #[true, true, true, false, false, false, false, false, false, true, false, false] rfl rfl rfl rfl rfl rfl (three_of HT_.out (by kernel_rfl)) (by decide) (by decide) (by decide) (fun K hK => ?_) (fun K hK => ?_) (fun K hK => ?_)
                ·skip
                 refine goes_ Try.func36 (by kernel_rfl) rfl #[.int .i64 (wrap64 (64 * a1))] (by rfl) rfl rfl (by (try simp only [List.map_toArray, List.map_cons, List.map_nil]); first | done | rfl | (simp only [List.length_drop, List.length_take]; rfl)) ?_
                 with_reducible refine (spec_Two.calls kj3 (wrap64 (64 * a1)) t304 t305 _ A25.out).mono ?_
                 rintro e w34 ⟨v306, rfl, ho0, hb⟩
                 refine ⟨_, rfl, ?_⟩
                 have n0_ := Aside0.mk (Kd.V_below (by (with_reducible repeat (first | apply Kd.V_alloc | apply Kd.V_drewN | apply Kd.V_drew)); exact HO_298001.out) hb)
                 have n1_ := Aside0.mk (Kd.V_lower (Kd.V_mono (ok' := fun k_ => k_ ≠ gb292 ∧ k_ ≠ gb297) ho0 (fun k_ hk_ => ⟨(Kd.freshB (g := gb292) (o := .cells #[.bool true, .slice A0_1 l0_1.length c0_1] 27 (0, 0)) (by (with_reducible repeat (first | refine blk_drewN ?_ _ | refine blk_drew ?_ | refine blk_alloc ?_ _)); exact BK292.out) k_ hk_), (Kd.freshB (g := gb297) (o := .cells #[.bool t293, .slice Ao10 t294.length co10] 27 (0, 0)) (by (with_reducible repeat (first | refine blk_drewN ?_ _ | refine blk_drew ?_ | refine blk_alloc ?_ _)); exact BK297.out) k_ hk_)⟩)) (below_size (by repeat (first | (with_reducible first | exact HB.out | apply below_alloc | apply pw_below_drewN | apply below_drew1 | refine below_set ?_ GE292.out | refine below_set ?_ GE297.out) | exact HB.out))))
                 have n2_ := Aside0.mk (blk_below (g := gb292) (o := .cells #[.bool true, .slice A0_1 l0_1.length c0_1] 27 (0, 0)) (by (with_reducible repeat (first | refine blk_drewN ?_ _ | refine blk_drew ?_ | refine blk_alloc ?_ _)); exact BK292.out) hb)
                 have n3_ := Aside0.mk (blk_below (g := gb297) (o := .cells #[.bool t293, .slice Ao10 t294.length co10] 27 (0, 0)) (by (with_reducible repeat (first | refine blk_drewN ?_ _ | refine blk_drew ?_ | refine blk_alloc ?_ _)); exact BK297.out) hb)
                 have n4_ := Aside0.mk (below_step (by repeat (first | (with_reducible first | exact HB.out | apply below_alloc | apply pw_below_drewN | apply below_drew1 | refine below_set ?_ GE292.out | refine below_set ?_ GE297.out) | exact HB.out)) hb)
                 clear HO_298001 BK292 BK297 HB
                 have HO_298001 := n0_
                 have HO307 := n1_
                 have BK292 := n2_
                 have BK297 := n3_
                 have HB := n4_
                 clear n0_ n1_ n2_ n3_ n4_
                 (try clear hb)
                 (try clear hb2)
                 (try clear hk)
                 (try clear hi)
                 (try clear ho0)
                 refine hK.out _ _ ⟨(blk_cell BK292.out 0).trans rfl, (blk_cell BK292.out 1).trans rfl⟩ (fun hHeld => ?_)
                 clear hK K
                 refine norm_ (a' := ?_) ?_ ?_
                 rotate_left
                 ·show Act.put _ (some 34) _ = _
                  simp only [Act.put, List.setIfInBounds_toArray, List.set_cons_zero, List.set_cons_succ, i64_w, i32_w]
                  rfl
                 exact norm_ (by first | (simp only [putAll, Act.put, List.setIfInBounds_toArray, List.set_cons_zero, List.set_cons_succ]; done) | (simp only [putAll, Act.put, List.setIfInBounds_toArray, List.set_cons_zero, List.set_cons_succ]; rfl)) (hJ3 (v306) _ ⟨hHeld, (by (with_reducible repeat (first | apply Kd.V_alloc | apply Kd.V_drewN | apply Kd.V_drew)); exact HO307.out), (by (with_reducible repeat (first | apply Kd.V_alloc | apply Kd.V_drewN | apply Kd.V_drew)); exact HO_298001.out), (by (with_reducible repeat (first | refine blk_drewN ?_ _ | refine blk_drew ?_ | refine blk_alloc ?_ _)); exact BK292.out), (by (with_reducible repeat (first | refine blk_drewN ?_ _ | refine blk_drew ?_ | refine blk_alloc ?_ _)); exact BK297.out), (by repeat (first | (with_reducible first | exact HB.out | apply below_alloc | apply pw_below_drewN | apply below_drew1 | refine below_set ?_ GE292.out | refine below_set ?_ GE297.out) | exact HB.out))⟩)
                ·skip
                 refine box_step ?hg (N := 8) ?hd (cs := #[.bool false, .slice none 0 0]) (t := 27) ?hr ?_; (case hd => rfl); (case hg => rfl); (case hr => first | (go_simp; done) | (go_simp; rfl))
                 intro gb316 hg w34 hbox hb
                 have n0_ := Aside0.mk (Kd.V_below (Kd.V_elderB (by (with_reducible repeat (first | apply Kd.V_alloc | apply Kd.V_drewN | apply Kd.V_drew)); exact HO_298001.out) gb316 (Nat.le_of_eq hg.symm)) hb)
                 have n1_ := Aside0.mk (blk_below (g := gb292) (o := .cells #[.bool true, .slice A0_1 l0_1.length c0_1] 27 (0, 0)) (by (with_reducible repeat (first | refine blk_drewN ?_ _ | refine blk_drew ?_ | refine blk_alloc ?_ _)); exact BK292.out) hb)
                 have n2_ := Aside0.mk (blk_below (g := gb297) (o := .cells #[.bool t293, .slice Ao10 t294.length co10] 27 (0, 0)) (by (with_reducible repeat (first | refine blk_drewN ?_ _ | refine blk_drew ?_ | refine blk_alloc ?_ _)); exact BK297.out) hb)
                 have n3_ := Aside0.mk (below_step (by repeat (first | (with_reducible first | exact HB.out | apply below_alloc | apply pw_below_drewN | apply below_drew1 | refine below_set ?_ GE292.out | refine below_set ?_ GE297.out) | exact HB.out)) hb)
                 have n4_ := Aside0.mk (hbox)
                 have n5_ := Aside0.mk ((by rw [hg]; exact (below_size (by repeat (first | (with_reducible first | exact HB.out | apply below_alloc | apply pw_below_drewN | apply below_drew1 | refine below_set ?_ GE292.out | refine below_set ?_ GE297.out) | exact HB.out))) : w.heap.size ≤ gb316))
                 have n6_ := Aside0.mk ((by rw [hg]; exact (below_size (by repeat (first | (with_reducible first | exact HB.out | apply below_alloc | apply pw_below_drewN | apply below_drew1 | refine below_set ?_ GE292.out | refine below_set ?_ GE297.out) | exact HB.out))) : w.heap.size ≤ gb316))
                 have n7_ := Aside0.mk ((by rw [hg]; exact Nat.ne_of_lt (blk_lt (g := gb292) (o := .cells #[.bool true, .slice A0_1 l0_1.length c0_1] 27 (0, 0)) (by (with_reducible repeat (first | refine blk_drewN ?_ _ | refine blk_drew ?_ | refine blk_alloc ?_ _)); exact BK292.out)) : gb292 ≠ gb316))
                 have n8_ := Aside0.mk ((by rw [hg]; exact Nat.ne_of_gt (blk_lt (g := gb292) (o := .cells #[.bool true, .slice A0_1 l0_1.length c0_1] 27 (0, 0)) (by (with_reducible repeat (first | refine blk_drewN ?_ _ | refine blk_drew ?_ | refine blk_alloc ?_ _)); exact BK292.out)) : gb316 ≠ gb292))
                 have n9_ := Aside0.mk ((by rw [hg]; exact Nat.ne_of_lt (blk_lt (g := gb297) (o := .cells #[.bool t293, .slice Ao10 t294.length co10] 27 (0, 0)) (by (with_reducible repeat (first | refine blk_drewN ?_ _ | refine blk_drew ?_ | refine blk_alloc ?_ _)); exact BK297.out)) : gb297 ≠ gb316))
                 have n10_ := Aside0.mk ((by rw [hg]; exact Nat.ne_of_gt (blk_lt (g := gb297) (o := .cells #[.bool t293, .slice Ao10 t294.length co10] 27 (0, 0)) (by (with_reducible repeat (first | refine blk_drewN ?_ _ | refine blk_drew ?_ | refine blk_alloc ?_ _)); exact BK297.out)) : gb316 ≠ gb297))
                 clear HO_298001 BK292 BK297 HB
                 have HO_298001 := n0_
                 have BK292 := n1_
                 have BK297 := n2_
                 have HB := n3_
                 have BK316 := n4_
                 have GW316 := n5_
                 have GE316 := n6_
                 have NB292_316 := n7_
                 have NB316_292 := n8_
                 have NB297_316 := n9_
                 have NB316_297 := n10_
                 clear n0_ n1_ n2_ n3_ n4_ n5_ n6_ n7_ n8_ n9_ n10_ hb hbox hg
                 refine hK.out _ _ ⟨(blk_cell BK292.out 0).trans rfl, (blk_cell BK292.out 1).trans rfl⟩ (fun hHeld => ?_)
                 clear hK K
                 refine norm_ (a' := ?_) ?_ ?_
                 rotate_left
                 ·show Act.put _ (some 8) _ = _
                  simp only [Act.put, List.setIfInBounds_toArray, List.set_cons_zero, List.set_cons_succ, i64_w, i32_w]
                  rfl
                 exact norm_ (by first | (simp only [putAll, Act.put, List.setIfInBounds_toArray, List.set_cons_zero, List.set_cons_succ]; done) | (simp only [putAll, Act.put, List.setIfInBounds_toArray, List.set_cons_zero, List.set_cons_succ]; rfl)) (hJ8 (gb316) _ ⟨hHeld, (by (with_reducible repeat (first | apply Kd.V_alloc | apply Kd.V_drewN | apply Kd.V_drew)); exact Kd.V_mono HO_298001.out (fun _ hk => ⟨hk.1.1, ⟨hk.1.2, hk.2⟩⟩)), (by (with_reducible repeat (first | refine blk_drewN ?_ _ | refine blk_drew ?_ | refine blk_alloc ?_ _)); exact BK292.out), (by (with_reducible repeat (first | refine blk_drewN ?_ _ | refine blk_drew ?_ | refine blk_alloc ?_ _)); exact BK297.out), (by (with_reducible repeat (first | refine blk_drewN ?_ _ | refine blk_drew ?_ | refine blk_alloc ?_ _)); exact BK316.out), GW316.out, GE316.out, NB292_316.out, NB316_292.out, NB297_316.out, NB316_297.out, (by repeat (first | (with_reducible first | exact HB.out | apply below_alloc | apply pw_below_drewN | apply below_drew1 | refine below_set ?_ GE292.out | refine below_set ?_ GE297.out | refine below_set ?_ GE316.out) | exact HB.out))⟩)
                ·skip
                 refine box_step ?hg (N := 9) ?hd (cs := #[.bool false, .slice none 0 0]) (t := 27) ?hr ?_; (case hd => rfl); (case hg => rfl); (case hr => first | (go_simp; done) | (go_simp; rfl))
                 intro gb317 hg w34 hbox hb
                 have n0_ := Aside0.mk (Kd.V_below (Kd.V_elderB (by (with_reducible repeat (first | apply Kd.V_alloc | apply Kd.V_drewN | apply Kd.V_drew)); exact HO_298001.out) gb317 (Nat.le_of_eq hg.symm)) hb)
                 have n1_ := Aside0.mk (blk_below (g := gb292) (o := .cells #[.bool true, .slice A0_1 l0_1.length c0_1] 27 (0, 0)) (by (with_reducible repeat (first | refine blk_drewN ?_ _ | refine blk_drew ?_ | refine blk_alloc ?_ _)); exact BK292.out) hb)
                 have n2_ := Aside0.mk (blk_below (g := gb297) (o := .cells #[.bool t293, .slice Ao10 t294.length co10] 27 (0, 0)) (by (with_reducible repeat (first | refine blk_drewN ?_ _ | refine blk_drew ?_ | refine blk_alloc ?_ _)); exact BK297.out) hb)
                 have n3_ := Aside0.mk (below_step (by repeat (first | (with_reducible first | exact HB.out | apply below_alloc | apply pw_below_drewN | apply below_drew1 | refine below_set ?_ GE292.out | refine below_set ?_ GE297.out) | exact HB.out)) hb)
                 have n4_ := Aside0.mk (hbox)
                 have n5_ := Aside0.mk ((by rw [hg]; exact (below_size (by repeat (first | (with_reducible first | exact HB.out | apply below_alloc | apply pw_below_drewN | apply below_drew1 | refine below_set ?_ GE292.out | refine below_set ?_ GE297.out) | exact HB.out))) : w.heap.size ≤ gb317))
                 have n6_ := Aside0.mk ((by rw [hg]; exact (below_size (by repeat (first | (with_reducible first | exact HB.out | apply below_alloc | apply pw_below_drewN | apply below_drew1 | refine below_set ?_ GE292.out | refine below_set ?_ GE297.out) | exact HB.out))) : w.heap.size ≤ gb317))
                 have n7_ := Aside0.mk ((by rw [hg]; exact Nat.ne_of_lt (blk_lt (g := gb292) (o := .cells #[.bool true, .slice A0_1 l0_1.length c0_1] 27 (0, 0)) (by (with_reducible repeat (first | refine blk_drewN ?_ _ | refine blk_drew ?_ | refine blk_alloc ?_ _)); exact BK292.out)) : gb292 ≠ gb317))
                 have n8_ := Aside0.mk ((by rw [hg]; exact Nat.ne_of_gt (blk_lt (g := gb292) (o := .cells #[.bool true, .slice A0_1 l0_1.length c0_1] 27 (0, 0)) (by (with_reducible repeat (first | refine blk_drewN ?_ _ | refine blk_drew ?_ | refine blk_alloc ?_ _)); exact BK292.out)) : gb317 ≠ gb292))
                 have n9_ := Aside0.mk ((by rw [hg]; exact Nat.ne_of_lt (blk_lt (g := gb297) (o := .cells #[.bool t293, .slice Ao10 t294.length co10] 27 (0, 0)) (by (with_reducible repeat (first | refine blk_drewN ?_ _ | refine blk_drew ?_ | refine blk_alloc ?_ _)); exact BK297.out)) : gb297 ≠ gb317))
                 have n10_ := Aside0.mk ((by rw [hg]; exact Nat.ne_of_gt (blk_lt (g := gb297) (o := .cells #[.bool t293, .slice Ao10 t294.length co10] 27 (0, 0)) (by (with_reducible repeat (first | refine blk_drewN ?_ _ | refine blk_drew ?_ | refine blk_alloc ?_ _)); exact BK297.out)) : gb317 ≠ gb297))
                 clear HO_298001 BK292 BK297 HB
                 have HO_298001 := n0_
                 have BK292 := n1_
                 have BK297 := n2_
                 have HB := n3_
                 have BK317 := n4_
                 have GW317 := n5_
                 have GE317 := n6_
                 have NB292_317 := n7_
                 have NB317_292 := n8_
                 have NB297_317 := n9_
                 have NB317_297 := n10_
                 clear n0_ n1_ n2_ n3_ n4_ n5_ n6_ n7_ n8_ n9_ n10_ hb hbox hg
                 refine hK.out _ _ ⟨(blk_cell BK292.out 0).trans rfl, (blk_cell BK292.out 1).trans rfl⟩ (fun hHeld => ?_)
                 clear hK K
                 refine norm_ (a' := ?_) ?_ ?_
                 rotate_left
                 ·show Act.put _ (some 9) _ = _
                  simp only [Act.put, List.setIfInBounds_toArray, List.set_cons_zero, List.set_cons_succ, i64_w, i32_w]
                  rfl
                 exact norm_ (by first | (simp only [putAll, Act.put, List.setIfInBounds_toArray, List.set_cons_zero, List.set_cons_succ]; done) | (simp only [putAll, Act.put, List.setIfInBounds_toArray, List.set_cons_zero, List.set_cons_succ]; rfl)) (hJ9 (gb317) _ ⟨hHeld, (by (with_reducible repeat (first | apply Kd.V_alloc | apply Kd.V_drewN | apply Kd.V_drew)); exact Kd.V_mono HO_298001.out (fun _ hk => ⟨hk.1.1, ⟨hk.1.2, hk.2⟩⟩)), (by (with_reducible repeat (first | refine blk_drewN ?_ _ | refine blk_drew ?_ | refine blk_alloc ?_ _)); exact BK292.out), (by (with_reducible repeat (first | refine blk_drewN ?_ _ | refine blk_drew ?_ | refine blk_alloc ?_ _)); exact BK297.out), (by (with_reducible repeat (first | refine blk_drewN ?_ _ | refine blk_drew ?_ | refine blk_alloc ?_ _)); exact BK317.out), GW317.out, GE317.out, NB292_317.out, NB317_292.out, NB297_317.out, NB317_297.out, (by repeat (first | (with_reducible first | exact HB.out | apply below_alloc | apply pw_below_drewN | apply below_drew1 | refine below_set ?_ GE292.out | refine below_set ?_ GE297.out | refine below_set ?_ GE317.out) | exact HB.out))⟩)
               ·skip
                rintro gb317 w35 ⟨hS_, h0_, h1_, h2_, h3_, h4_, h5_, h6_, h7_, h8_, h9_, h10_⟩
                have n0_ : Aside0 (Kd.V (Kd.int .u32) 44 w35 w.heap.size (fun k_ => k_ ≠ gb292 ∧ k_ ≠ gb297 ∧ k_ ≠ gb317) (.slice Ao10 t294.length co10) t294) := ⟨h0_⟩
                have n1_ : Aside0 (w35.heap[gb292]? = some (.cells #[.bool true, .slice A0_1 l0_1.length c0_1] 27 (0, 0))) := ⟨h1_⟩
                have n2_ : Aside0 (w35.heap[gb297]? = some (.cells #[.bool t293, .slice Ao10 t294.length co10] 27 (0, 0))) := ⟨h2_⟩
                have n3_ : Aside0 (w35.heap[gb317]? = some (.cells #[.bool false, .slice none 0 0] 27 (0, 0))) := ⟨h3_⟩
                have n4_ : Aside0 (w.heap.size ≤ gb317) := ⟨h4_⟩
                have n5_ : Aside0 (w.heap.size ≤ gb317) := ⟨h5_⟩
                have n6_ : Aside0 (gb292 ≠ gb317) := ⟨h6_⟩
                have n7_ : Aside0 (gb317 ≠ gb292) := ⟨h7_⟩
                have n8_ : Aside0 (gb297 ≠ gb317) := ⟨h8_⟩
                have n9_ : Aside0 (gb317 ≠ gb297) := ⟨h9_⟩
                have n10_ : Aside0 (Below w.heap.size w w35) := ⟨h10_⟩
                clear HO_298001 BK292 BK297 HB h0_ h1_ h2_ h3_ h4_ h5_ h6_ h7_ h8_ h9_ h10_
                have HO_298001 := n0_
                have BK292 := n1_
                have BK297 := n2_
                have BK317 := n3_
                have GW317 := n4_
                have GE317 := n5_
                have NB292_317 := n6_
                have NB317_292 := n7_
                have NB297_317 := n8_
                have NB317_297 := n9_
                have HB := n10_
                clear n0_ n1_ n2_ n3_ n4_ n5_ n6_ n7_ n8_ n9_ n10_
                have hHeld : w35.cell? ⟨gb292, 0, none⟩ = some (.bool true) ∧ w35.cell? ⟨gb292, 1, none⟩ = some (.slice A0_1 l0_1.length c0_1) := hS_
                refine norm_ (a' := ?_) ?_ ?_
                rotate_left
                ·simp only [putAll, Act.put, List.setIfInBounds_toArray, List.set_cons_zero, List.set_cons_succ]
                 rfl
                refine two_ (i := 3) (j := 8) (Ni := some 34) (Nj := some 8) #[true, true, true, true, false, false, false, false, false, true, false, false] #[true, true, true, false, false, false, false, false, true, true, false, false] rfl rfl rfl rfl (two_of HT_.out (by kernel_rfl)) (by decide) (by decide) (fun K hK => ?_) (fun K hK => ?_)
                ·skip
                 refine goes_ Try.func36 (by kernel_rfl) rfl #[.int .i64 (wrap64 (64 * a1))] (by rfl) rfl rfl (by (try simp only [List.map_toArray, List.map_cons, List.map_nil]); first | done | rfl | (simp only [List.length_drop, List.length_take]; rfl)) ?_
                 with_reducible refine (spec_Two.calls kj3 (wrap64 (64 * a1)) t304 t305 _ A25.out).mono ?_
                 rintro e w36 ⟨v306, rfl, ho0, hb⟩
                 refine ⟨_, rfl, ?_⟩
                 have n0_ := Aside0.mk (Kd.V_below (by (with_reducible repeat (first | apply Kd.V_alloc | apply Kd.V_drewN | apply Kd.V_drew)); exact HO_298001.out) hb)
                 have n1_ := Aside0.mk (Kd.V_lower (Kd.V_mono (ok' := fun k_ => k_ ≠ gb292 ∧ k_ ≠ gb297 ∧ k_ ≠ gb317) ho0 (fun k_ hk_ => ⟨(Kd.freshB (g := gb292) (o := .cells #[.bool true, .slice A0_1 l0_1.length c0_1] 27 (0, 0)) (by (with_reducible repeat (first | refine blk_drewN ?_ _ | refine blk_drew ?_ | refine blk_alloc ?_ _)); exact BK292.out) k_ hk_), (Kd.freshB (g := gb297) (o := .cells #[.bool t293, .slice Ao10 t294.length co10] 27 (0, 0)) (by (with_reducible repeat (first | refine blk_drewN ?_ _ | refine blk_drew ?_ | refine blk_alloc ?_ _)); exact BK297.out) k_ hk_), (Kd.freshB (g := gb317) (o := .cells #[.bool false, .slice none 0 0] 27 (0, 0)) (by (with_reducible repeat (first | refine blk_drewN ?_ _ | refine blk_drew ?_ | refine blk_alloc ?_ _)); exact BK317.out) k_ hk_)⟩)) (below_size (by repeat (first | (with_reducible first | exact HB.out | apply below_alloc | apply pw_below_drewN | apply below_drew1 | refine below_set ?_ GE292.out | refine below_set ?_ GE297.out | refine below_set ?_ GE317.out) | exact HB.out))))
                 have n2_ := Aside0.mk (blk_below (g := gb292) (o := .cells #[.bool true, .slice A0_1 l0_1.length c0_1] 27 (0, 0)) (by (with_reducible repeat (first | refine blk_drewN ?_ _ | refine blk_drew ?_ | refine blk_alloc ?_ _)); exact BK292.out) hb)
                 have n3_ := Aside0.mk (blk_below (g := gb297) (o := .cells #[.bool t293, .slice Ao10 t294.length co10] 27 (0, 0)) (by (with_reducible repeat (first | refine blk_drewN ?_ _ | refine blk_drew ?_ | refine blk_alloc ?_ _)); exact BK297.out) hb)
                 have n4_ := Aside0.mk (blk_below (g := gb317) (o := .cells #[.bool false, .slice none 0 0] 27 (0, 0)) (by (with_reducible repeat (first | refine blk_drewN ?_ _ | refine blk_drew ?_ | refine blk_alloc ?_ _)); exact BK317.out) hb)
                 have n5_ := Aside0.mk (below_step (by repeat (first | (with_reducible first | exact HB.out | apply below_alloc | apply pw_below_drewN | apply below_drew1 | refine below_set ?_ GE292.out | refine below_set ?_ GE297.out | refine below_set ?_ GE317.out) | exact HB.out)) hb)
                 clear HO_298001 BK292 BK297 BK317 HB
                 have HO_298001 := n0_
                 have HO307 := n1_
                 have BK292 := n2_
                 have BK297 := n3_
                 have BK317 := n4_
                 have HB := n5_
                 clear n0_ n1_ n2_ n3_ n4_ n5_
                 (try clear hb)
                 (try clear hb2)
                 (try clear hk)
                 (try clear hi)
                 (try clear ho0)
                 refine hK.out _ _ ⟨(blk_cell BK292.out 0).trans rfl, (blk_cell BK292.out 1).trans rfl⟩ (fun hHeld => ?_)
                 clear hK K
                 refine norm_ (a' := ?_) ?_ ?_
                 rotate_left
                 ·show Act.put _ (some 34) _ = _
                  simp only [Act.put, List.setIfInBounds_toArray, List.set_cons_zero, List.set_cons_succ, i64_w, i32_w]
                  rfl
                 exact norm_ (by first | (simp only [putAll, Act.put, List.setIfInBounds_toArray, List.set_cons_zero, List.set_cons_succ]; done) | (simp only [putAll, Act.put, List.setIfInBounds_toArray, List.set_cons_zero, List.set_cons_succ]; rfl)) (hJ3_9 (v306, gb317) _ ⟨hHeld, (by (with_reducible repeat (first | apply Kd.V_alloc | apply Kd.V_drewN | apply Kd.V_drew)); exact HO307.out), (by (with_reducible repeat (first | apply Kd.V_alloc | apply Kd.V_drewN | apply Kd.V_drew)); exact HO_298001.out), (by (with_reducible repeat (first | refine blk_drewN ?_ _ | refine blk_drew ?_ | refine blk_alloc ?_ _)); exact BK292.out), (by (with_reducible repeat (first | refine blk_drewN ?_ _ | refine blk_drew ?_ | refine blk_alloc ?_ _)); exact BK297.out), (by (with_reducible repeat (first | refine blk_drewN ?_ _ | refine blk_drew ?_ | refine blk_alloc ?_ _)); exact BK317.out), GW317.out, GE317.out, NB292_317.out, NB317_292.out, NB297_317.out, NB317_297.out, (by repeat (first | (with_reducible first | exact HB.out | apply below_alloc | apply pw_below_drewN | apply below_drew1 | refine below_set ?_ GE292.out | refine below_set ?_ GE297.out | refine below_set ?_ GE317.out) | exact HB.out))⟩)
                ·skip
                 refine box_step ?hg (N := 8) ?hd (cs := #[.bool false, .slice none 0 0]) (t := 27) ?hr ?_; (case hd => rfl); (case hg => rfl); (case hr => first | (go_simp; done) | (go_simp; rfl))
                 intro gb316 hg w36 hbox hb
                 have n0_ := Aside0.mk (Kd.V_below (Kd.V_elderB (by (with_reducible repeat (first | apply Kd.V_alloc | apply Kd.V_drewN | apply Kd.V_drew)); exact HO_298001.out) gb316 (Nat.le_of_eq hg.symm)) hb)
                 have n1_ := Aside0.mk (blk_below (g := gb292) (o := .cells #[.bool true, .slice A0_1 l0_1.length c0_1] 27 (0, 0)) (by (with_reducible repeat (first | refine blk_drewN ?_ _ | refine blk_drew ?_ | refine blk_alloc ?_ _)); exact BK292.out) hb)
                 have n2_ := Aside0.mk (blk_below (g := gb297) (o := .cells #[.bool t293, .slice Ao10 t294.length co10] 27 (0, 0)) (by (with_reducible repeat (first | refine blk_drewN ?_ _ | refine blk_drew ?_ | refine blk_alloc ?_ _)); exact BK297.out) hb)
                 have n3_ := Aside0.mk (blk_below (g := gb317) (o := .cells #[.bool false, .slice none 0 0] 27 (0, 0)) (by (with_reducible repeat (first | refine blk_drewN ?_ _ | refine blk_drew ?_ | refine blk_alloc ?_ _)); exact BK317.out) hb)
                 have n4_ := Aside0.mk (below_step (by repeat (first | (with_reducible first | exact HB.out | apply below_alloc | apply pw_below_drewN | apply below_drew1 | refine below_set ?_ GE292.out | refine below_set ?_ GE297.out | refine below_set ?_ GE317.out) | exact HB.out)) hb)
                 have n5_ := Aside0.mk (hbox)
                 have n6_ := Aside0.mk ((by rw [hg]; exact (below_size (by repeat (first | (with_reducible first | exact HB.out | apply below_alloc | apply pw_below_drewN | apply below_drew1 | refine below_set ?_ GE292.out | refine below_set ?_ GE297.out | refine below_set ?_ GE317.out) | exact HB.out))) : w.heap.size ≤ gb316))
                 have n7_ := Aside0.mk ((by rw [hg]; exact (below_size (by repeat (first | (with_reducible first | exact HB.out | apply below_alloc | apply pw_below_drewN | apply below_drew1 | refine below_set ?_ GE292.out | refine below_set ?_ GE297.out | refine below_set ?_ GE317.out) | exact HB.out))) : w.heap.size ≤ gb316))
                 have n8_ := Aside0.mk ((by rw [hg]; exact Nat.ne_of_lt (blk_lt (g := gb292) (o := .cells #[.bool true, .slice A0_1 l0_1.length c0_1] 27 (0, 0)) (by (with_reducible repeat (first | refine blk_drewN ?_ _ | refine blk_drew ?_ | refine blk_alloc ?_ _)); exact BK292.out)) : gb292 ≠ gb316))
                 have n9_ := Aside0.mk ((by rw [hg]; exact Nat.ne_of_gt (blk_lt (g := gb292) (o := .cells #[.bool true, .slice A0_1 l0_1.length c0_1] 27 (0, 0)) (by (with_reducible repeat (first | refine blk_drewN ?_ _ | refine blk_drew ?_ | refine blk_alloc ?_ _)); exact BK292.out)) : gb316 ≠ gb292))
                 have n10_ := Aside0.mk ((by rw [hg]; exact Nat.ne_of_lt (blk_lt (g := gb297) (o := .cells #[.bool t293, .slice Ao10 t294.length co10] 27 (0, 0)) (by (with_reducible repeat (first | refine blk_drewN ?_ _ | refine blk_drew ?_ | refine blk_alloc ?_ _)); exact BK297.out)) : gb297 ≠ gb316))
                 have n11_ := Aside0.mk ((by rw [hg]; exact Nat.ne_of_gt (blk_lt (g := gb297) (o := .cells #[.bool t293, .slice Ao10 t294.length co10] 27 (0, 0)) (by (with_reducible repeat (first | refine blk_drewN ?_ _ | refine blk_drew ?_ | refine blk_alloc ?_ _)); exact BK297.out)) : gb316 ≠ gb297))
                 have n12_ := Aside0.mk ((by rw [hg]; exact Nat.ne_of_lt (blk_lt (g := gb317) (o := .cells #[.bool false, .slice none 0 0] 27 (0, 0)) (by (with_reducible repeat (first | refine blk_drewN ?_ _ | refine blk_drew ?_ | refine blk_alloc ?_ _)); exact BK317.out)) : gb317 ≠ gb316))
                 have n13_ := Aside0.mk ((by rw [hg]; exact Nat.ne_of_gt (blk_lt (g := gb317) (o := .cells #[.bool false, .slice none 0 0] 27 (0, 0)) (by (with_reducible repeat (first | refine blk_drewN ?_ _ | refine blk_drew ?_ | refine blk_alloc ?_ _)); exact BK317.out)) : gb316 ≠ gb317))
                 clear HO_298001 BK292 BK297 BK317 HB
                 have HO_298001 := n0_
                 have BK292 := n1_
                 have BK297 := n2_
                 have BK317 := n3_
                 have HB := n4_
                 have BK316 := n5_
                 have GW316 := n6_
                 have GE316 := n7_
                 have NB292_316 := n8_
                 have NB316_292 := n9_
                 have NB297_316 := n10_
                 have NB316_297 := n11_
                 have NB317_316 := n12_
                 have NB316_317 := n13_
                 clear n0_ n1_ n2_ n3_ n4_ n5_ n6_ n7_ n8_ n9_ n10_ n11_ n12_ n13_ hb hbox hg
                 refine hK.out _ _ ⟨(blk_cell BK292.out 0).trans rfl, (blk_cell BK292.out 1).trans rfl⟩ (fun hHeld => ?_)
                 clear hK K
                 refine norm_ (a' := ?_) ?_ ?_
                 rotate_left
                 ·show Act.put _ (some 8) _ = _
                  simp only [Act.put, List.setIfInBounds_toArray, List.set_cons_zero, List.set_cons_succ, i64_w, i32_w]
                  rfl
                 exact norm_ (by first | (simp only [putAll, Act.put, List.setIfInBounds_toArray, List.set_cons_zero, List.set_cons_succ]; done) | (simp only [putAll, Act.put, List.setIfInBounds_toArray, List.set_cons_zero, List.set_cons_succ]; rfl)) (hJ8_9 (gb316, gb317) _ ⟨hHeld, (by (with_reducible repeat (first | apply Kd.V_alloc | apply Kd.V_drewN | apply Kd.V_drew)); exact Kd.V_mono HO_298001.out (fun _ hk => ⟨hk.1.1, ⟨hk.1.2.1, ⟨hk.2, hk.1.2.2⟩⟩⟩)), (by (with_reducible repeat (first | refine blk_drewN ?_ _ | refine blk_drew ?_ | refine blk_alloc ?_ _)); exact BK292.out), (by (with_reducible repeat (first | refine blk_drewN ?_ _ | refine blk_drew ?_ | refine blk_alloc ?_ _)); exact BK297.out), (by (with_reducible repeat (first | refine blk_drewN ?_ _ | refine blk_drew ?_ | refine blk_alloc ?_ _)); exact BK316.out), (by (with_reducible repeat (first | refine blk_drewN ?_ _ | refine blk_drew ?_ | refine blk_alloc ?_ _)); exact BK317.out), GW316.out, GE316.out, NB292_316.out, NB316_292.out, NB297_316.out, NB316_297.out, NB317_316.out, NB316_317.out, GW317.out, GE317.out, NB292_317.out, NB317_292.out, NB297_317.out, NB317_297.out, (by repeat (first | (with_reducible first | exact HB.out | apply below_alloc | apply pw_below_drewN | apply below_drew1 | refine below_set ?_ GE292.out | refine below_set ?_ GE297.out | refine below_set ?_ GE317.out | refine below_set ?_ GE316.out) | exact HB.out))⟩)
              ·skip
               rintro gb316 w35 ⟨hS_, h0_, h1_, h2_, h3_, h4_, h5_, h6_, h7_, h8_, h9_, h10_⟩
               have n0_ : Aside0 (Kd.V (Kd.int .u32) 44 w35 w.heap.size (fun k_ => k_ ≠ gb292 ∧ k_ ≠ gb297 ∧ k_ ≠ gb316) (.slice Ao10 t294.length co10) t294) := ⟨h0_⟩
               have n1_ : Aside0 (w35.heap[gb292]? = some (.cells #[.bool true, .slice A0_1 l0_1.length c0_1] 27 (0, 0))) := ⟨h1_⟩
               have n2_ : Aside0 (w35.heap[gb297]? = some (.cells #[.bool t293, .slice Ao10 t294.length co10] 27 (0, 0))) := ⟨h2_⟩
               have n3_ : Aside0 (w35.heap[gb316]? = some (.cells #[.bool false, .slice none 0 0] 27 (0, 0))) := ⟨h3_⟩
               have n4_ : Aside0 (w.heap.size ≤ gb316) := ⟨h4_⟩
               have n5_ : Aside0 (w.heap.size ≤ gb316) := ⟨h5_⟩
               have n6_ : Aside0 (gb292 ≠ gb316) := ⟨h6_⟩
               have n7_ : Aside0 (gb316 ≠ gb292) := ⟨h7_⟩
               have n8_ : Aside0 (gb297 ≠ gb316) := ⟨h8_⟩
               have n9_ : Aside0 (gb316 ≠ gb297) := ⟨h9_⟩
               have n10_ : Aside0 (Below w.heap.size w w35) := ⟨h10_⟩
               clear HO_298001 BK292 BK297 HB h0_ h1_ h2_ h3_ h4_ h5_ h6_ h7_ h8_ h9_ h10_
               have HO_298001 := n0_
               have BK292 := n1_
               have BK297 := n2_
               have BK316 := n3_
               have GW316 := n4_
               have GE316 := n5_
               have NB292_316 := n6_
               have NB316_292 := n7_
               have NB297_316 := n8_
               have NB316_297 := n9_
               have HB := n10_
               clear n0_ n1_ n2_ n3_ n4_ n5_ n6_ n7_ n8_ n9_ n10_
               have hHeld : w35.cell? ⟨gb292, 0, none⟩ = some (.bool true) ∧ w35.cell? ⟨gb292, 1, none⟩ = some (.slice A0_1 l0_1.length c0_1) := hS_
               refine norm_ (a' := ?_) ?_ ?_
               rotate_left
               ·simp only [putAll, Act.put, List.setIfInBounds_toArray, List.set_cons_zero, List.set_cons_succ]
                rfl
               refine two_ (i := 3) (j := 9) (Ni := some 34) (Nj := some 9) #[true, true, true, true, false, false, false, false, true, false, false, false] #[true, true, true, false, false, false, false, false, true, true, false, false] rfl rfl rfl rfl (two_of HT_.out (by kernel_rfl)) (by decide) (by decide) (fun K hK => ?_) (fun K hK => ?_)
               ·skip
                refine goes_ Try.func36 (by kernel_rfl) rfl #[.int .i64 (wrap64 (64 * a1))] (by rfl) rfl rfl (by (try simp only [List.map_toArray, List.map_cons, List.map_nil]); first | done | rfl | (simp only [List.length_drop, List.length_take]; rfl)) ?_
                with_reducible refine (spec_Two.calls kj3 (wrap64 (64 * a1)) t304 t305 _ A25.out).mono ?_
                rintro e w36 ⟨v306, rfl, ho0, hb⟩
                refine ⟨_, rfl, ?_⟩
                have n0_ := Aside0.mk (Kd.V_below (by (with_reducible repeat (first | apply Kd.V_alloc | apply Kd.V_drewN | apply Kd.V_drew)); exact HO_298001.out) hb)
                have n1_ := Aside0.mk (Kd.V_lower (Kd.V_mono (ok' := fun k_ => k_ ≠ gb292 ∧ k_ ≠ gb297 ∧ k_ ≠ gb316) ho0 (fun k_ hk_ => ⟨(Kd.freshB (g := gb292) (o := .cells #[.bool true, .slice A0_1 l0_1.length c0_1] 27 (0, 0)) (by (with_reducible repeat (first | refine blk_drewN ?_ _ | refine blk_drew ?_ | refine blk_alloc ?_ _)); exact BK292.out) k_ hk_), (Kd.freshB (g := gb297) (o := .cells #[.bool t293, .slice Ao10 t294.length co10] 27 (0, 0)) (by (with_reducible repeat (first | refine blk_drewN ?_ _ | refine blk_drew ?_ | refine blk_alloc ?_ _)); exact BK297.out) k_ hk_), (Kd.freshB (g := gb316) (o := .cells #[.bool false, .slice none 0 0] 27 (0, 0)) (by (with_reducible repeat (first | refine blk_drewN ?_ _ | refine blk_drew ?_ | refine blk_alloc ?_ _)); exact BK316.out) k_ hk_)⟩)) (below_size (by repeat (first | (with_reducible first | exact HB.out | apply below_alloc | apply pw_below_drewN | apply below_drew1 | refine below_set ?_ GE292.out | refine below_set ?_ GE297.out | refine below_set ?_ GE316.out) | exact HB.out))))
                have n2_ := Aside0.mk (blk_below (g := gb292) (o := .cells #[.bool true, .slice A0_1 l0_1.length c0_1] 27 (0, 0)) (by (with_reducible repeat (first | refine blk_drewN ?_ _ | refine blk_drew ?_ | refine blk_alloc ?_ _)); exact BK292.out) hb)
                have n3_ := Aside0.mk (blk_below (g := gb297) (o := .cells #[.bool t293, .slice Ao10 t294.length co10] 27 (0, 0)) (by (with_reducible repeat (first | refine blk_drewN ?_ _ | refine blk_drew ?_ | refine blk_alloc ?_ _)); exact BK297.out) hb)
                have n4_ := Aside0.mk (blk_below (g := gb316) (o := .cells #[.bool false, .slice none 0 0] 27 (0, 0)) (by (with_reducible repeat (first | refine blk_drewN ?_ _ | refine blk_drew ?_ | refine blk_alloc ?_ _)); exact BK316.out) hb)
                have n5_ := Aside0.mk (below_step (by repeat (first | (with_reducible first | exact HB.out | apply below_alloc | apply pw_below_drewN | apply below_drew1 | refine below_set ?_ GE292.out | refine below_set ?_ GE297.out | refine below_set ?_ GE316.out) | exact HB.out)) hb)
                clear HO_298001 BK292 BK297 BK316 HB
                have HO_298001 := n0_
                have HO307 := n1_
                have BK292 := n2_
                have BK297 := n3_
                have BK316 := n4_
                have HB := n5_
                clear n0_ n1_ n2_ n3_ n4_ n5_
                (try clear hb)
                (try clear hb2)
                (try clear hk)
                (try clear hi)
                (try clear ho0)
                refine hK.out _ _ ⟨(blk_cell BK292.out 0).trans rfl, (blk_cell BK292.out 1).trans rfl⟩ (fun hHeld => ?_)
                clear hK K
                refine norm_ (a' := ?_) ?_ ?_
                rotate_left
                ·show Act.put _ (some 34) _ = _
                 simp only [Act.put, List.setIfInBounds_toArray, List.set_cons_zero, List.set_cons_succ, i64_w, i32_w]
                 rfl
                exact norm_ (by first | (simp only [putAll, Act.put, List.setIfInBounds_toArray, List.set_cons_zero, List.set_cons_succ]; done) | (simp only [putAll, Act.put, List.setIfInBounds_toArray, List.set_cons_zero, List.set_cons_succ]; rfl)) (hJ3_8 (v306, gb316) _ ⟨hHeld, (by (with_reducible repeat (first | apply Kd.V_alloc | apply Kd.V_drewN | apply Kd.V_drew)); exact HO307.out), (by (with_reducible repeat (first | apply Kd.V_alloc | apply Kd.V_drewN | apply Kd.V_drew)); exact HO_298001.out), (by (with_reducible repeat (first | refine blk_drewN ?_ _ | refine blk_drew ?_ | refine blk_alloc ?_ _)); exact BK292.out), (by (with_reducible repeat (first | refine blk_drewN ?_ _ | refine blk_drew ?_ | refine blk_alloc ?_ _)); exact BK297.out), (by (with_reducible repeat (first | refine blk_drewN ?_ _ | refine blk_drew ?_ | refine blk_alloc ?_ _)); exact BK316.out), GW316.out, GE316.out, NB292_316.out, NB316_292.out, NB297_316.out, NB316_297.out, (by repeat (first | (with_reducible first | exact HB.out | apply below_alloc | apply pw_below_drewN | apply below_drew1 | refine below_set ?_ GE292.out | refine below_set ?_ GE297.out | refine below_set ?_ GE316.out) | exact HB.out))⟩)
               ·skip
                refine box_step ?hg (N := 9) ?hd (cs := #[.bool false, .slice none 0 0]) (t := 27) ?hr ?_; (case hd => rfl); (case hg => rfl); (case hr => first | (go_simp; done) | (go_simp; rfl))
                intro gb317 hg w36 hbox hb
                have n0_ := Aside0.mk (Kd.V_below (Kd.V_elderB (by (with_reducible repeat (first | apply Kd.V_alloc | apply Kd.V_drewN | apply Kd.V_drew)); exact HO_298001.out) gb317 (Nat.le_of_eq hg.symm)) hb)
                have n1_ := Aside0.mk (blk_below (g := gb292) (o := .cells #[.bool true, .slice A0_1 l0_1.length c0_1] 27 (0, 0)) (by (with_reducible repeat (first | refine blk_drewN ?_ _ | refine blk_drew ?_ | refine blk_alloc ?_ _)); exact BK292.out) hb)
                have n2_ := Aside0.mk (blk_below (g := gb297) (o := .cells #[.bool t293, .slice Ao10 t294.length co10] 27 (0, 0)) (by (with_reducible repeat (first | refine blk_drewN ?_ _ | refine blk_drew ?_ | refine blk_alloc ?_ _)); exact BK297.out) hb)
                have n3_ := Aside0.mk (blk_below (g := gb316) (o := .cells #[.bool false, .slice none 0 0] 27 (0, 0)) (by (with_reducible repeat (first | refine blk_drewN ?_ _ | refine blk_drew ?_ | refine blk_alloc ?_ _)); exact BK316.out) hb)
                have n4_ := Aside0.mk (below_step (by repeat (first | (with_reducible first | exact HB.out | apply below_alloc | apply pw_below_drewN | apply below_drew1 | refine below_set ?_ GE292.out | refine below_set ?_ GE297.out | refine below_set ?_ GE316.out) | exact HB.out)) hb)
                have n5_ := Aside0.mk (hbox)
                have n6_ := Aside0.mk ((by rw [hg]; exact (below_size (by repeat (first | (with_reducible first | exact HB.out | apply below_alloc | apply pw_below_drewN | apply below_drew1 | refine below_set ?_ GE292.out | refine below_set ?_ GE297.out | refine below_set ?_ GE316.out) | exact HB.out))) : w.heap.size ≤ gb317))
                have n7_ := Aside0.mk ((by rw [hg]; exact (below_size (by repeat (first | (with_reducible first | exact HB.out | apply below_alloc | apply pw_below_drewN | apply below_drew1 | refine below_set ?_ GE292.out | refine below_set ?_ GE297.out | refine below_set ?_ GE316.out) | exact HB.out))) : w.heap.size ≤ gb317))
                have n8_ := Aside0.mk ((by rw [hg]; exact Nat.ne_of_lt (blk_lt (g := gb292) (o := .cells #[.bool true, .slice A0_1 l0_1.length c0_1] 27 (0, 0)) (by (with_reducible repeat (first | refine blk_drewN ?_ _ | refine blk_drew ?_ | refine blk_alloc ?_ _)); exact BK292.out)) : gb292 ≠ gb317))
                have n9_ := Aside0.mk ((by rw [hg]; exact Nat.ne_of_gt (blk_lt (g := gb292) (o := .cells #[.bool true, .slice A0_1 l0_1.length c0_1] 27 (0, 0)) (by (with_reducible repeat (first | refine blk_drewN ?_ _ | refine blk_drew ?_ | refine blk_alloc ?_ _)); exact BK292.out)) : gb317 ≠ gb292))
                have n10_ := Aside0.mk ((by rw [hg]; exact Nat.ne_of_lt (blk_lt (g := gb297) (o := .cells #[.bool t293, .slice Ao10 t294.length co10] 27 (0, 0)) (by (with_reducible repeat (first | refine blk_drewN ?_ _ | refine blk_drew ?_ | refine blk_alloc ?_ _)); exact BK297.out)) : gb297 ≠ gb317))
                have n11_ := Aside0.mk ((by rw [hg]; exact Nat.ne_of_gt (blk_lt (g := gb297) (o := .cells #[.bool t293, .slice Ao10 t294.length co10] 27 (0, 0)) (by (with_reducible repeat (first | refine blk_drewN ?_ _ | refine blk_drew ?_ | refine blk_alloc ?_ _)); exact BK297.out)) : gb317 ≠ gb297))
                have n12_ := Aside0.mk ((by rw [hg]; exact Nat.ne_of_lt (blk_lt (g := gb316) (o := .cells #[.bool false, .slice none 0 0] 27 (0, 0)) (by (with_reducible repeat (first | refine blk_drewN ?_ _ | refine blk_drew ?_ | refine blk_alloc ?_ _)); exact BK316.out)) : gb316 ≠ gb317))
                have n13_ := Aside0.mk ((by rw [hg]; exact Nat.ne_of_gt (blk_lt (g := gb316) (o := .cells #[.bool false, .slice none 0 0] 27 (0, 0)) (by (with_reducible repeat (first | refine blk_drewN ?_ _ | refine blk_drew ?_ | refine blk_alloc ?_ _)); exact BK316.out)) : gb317 ≠ gb316))
                clear HO_298001 BK292 BK297 BK316 HB
                have HO_298001 := n0_
                have BK292 := n1_
                have BK297 := n2_
                have BK316 := n3_
                have HB := n4_
                have BK317 := n5_
                have GW317 := n6_
                have GE317 := n7_
                have NB292_317 := n8_
                have NB317_292 := n9_
                have NB297_317 := n10_
                have NB317_297 := n11_
                have NB316_317 := n12_
                have NB317_316 := n13_
                clear n0_ n1_ n2_ n3_ n4_ n5_ n6_ n7_ n8_ n9_ n10_ n11_ n12_ n13_ hb hbox hg
                refine hK.out _ _ ⟨(blk_cell BK292.out 0).trans rfl, (blk_cell BK292.out 1).trans rfl⟩ (fun hHeld => ?_)
                clear hK K
                refine norm_ (a' := ?_) ?_ ?_
                rotate_left
                ·show Act.put _ (some 9) _ = _
                 simp only [Act.put, List.setIfInBounds_toArray, List.set_cons_zero, List.set_cons_succ, i64_w, i32_w]
                 rfl
                exact norm_ (by first | (simp only [putAll, Act.put, List.setIfInBounds_toArray, List.set_cons_zero, List.set_cons_succ]; done) | (simp only [putAll, Act.put, List.setIfInBounds_toArray, List.set_cons_zero, List.set_cons_succ]; rfl)) (hJ8_9 (gb316, gb317) _ ⟨hHeld, (by (with_reducible repeat (first | apply Kd.V_alloc | apply Kd.V_drewN | apply Kd.V_drew)); exact Kd.V_mono HO_298001.out (fun _ hk => ⟨hk.1.1, ⟨hk.1.2.1, ⟨hk.1.2.2, hk.2⟩⟩⟩)), (by (with_reducible repeat (first | refine blk_drewN ?_ _ | refine blk_drew ?_ | refine blk_alloc ?_ _)); exact BK292.out), (by (with_reducible repeat (first | refine blk_drewN ?_ _ | refine blk_drew ?_ | refine blk_alloc ?_ _)); exact BK297.out), (by (with_reducible repeat (first | refine blk_drewN ?_ _ | refine blk_drew ?_ | refine blk_alloc ?_ _)); exact BK316.out), (by (with_reducible repeat (first | refine blk_drewN ?_ _ | refine blk_drew ?_ | refine blk_alloc ?_ _)); exact BK317.out), GW316.out, GE316.out, NB292_316.out, NB316_292.out, NB297_316.out, NB316_297.out, NB317_316.out, NB316_317.out, GW317.out, GE317.out, NB292_317.out, NB317_292.out, NB297_317.out, NB317_297.out, (by repeat (first | (with_reducible first | exact HB.out | apply below_alloc | apply pw_below_drewN | apply below_drew1 | refine below_set ?_ GE292.out | refine below_set ?_ GE297.out | refine below_set ?_ GE316.out | refine below_set ?_ GE317.out) | exact HB.out))⟩)
             ·skip
              rintro v306 w35 ⟨hS_, h0_, h1_, h2_, h3_, h4_⟩
              have n0_ : Aside0 (Kd.V (Kd.int .u32) 44 w35 w.heap.size (fun k_ => k_ ≠ gb292 ∧ k_ ≠ gb297) v306 t305) := ⟨h0_⟩
              have n1_ : Aside0 (Kd.V (Kd.int .u32) 44 w35 w.heap.size (fun k_ => k_ ≠ gb292 ∧ k_ ≠ gb297) (.slice Ao10 t294.length co10) t294) := ⟨h1_⟩
              have n2_ : Aside0 (w35.heap[gb292]? = some (.cells #[.bool true, .slice A0_1 l0_1.length c0_1] 27 (0, 0))) := ⟨h2_⟩
              have n3_ : Aside0 (w35.heap[gb297]? = some (.cells #[.bool t293, .slice Ao10 t294.length co10] 27 (0, 0))) := ⟨h3_⟩
              have n4_ : Aside0 (Below w.heap.size w w35) := ⟨h4_⟩
              clear HO_298001 BK292 BK297 HB h0_ h1_ h2_ h3_ h4_
              have HO307 := n0_
              have HO_298001 := n1_
              have BK292 := n2_
              have BK297 := n3_
              have HB := n4_
              clear n0_ n1_ n2_ n3_ n4_
              have hHeld : w35.cell? ⟨gb292, 0, none⟩ = some (.bool true) ∧ w35.cell? ⟨gb292, 1, none⟩ = some (.slice A0_1 l0_1.length c0_1) := hS_
              obtain ⟨Ao36, co36, eo36⟩ := Kd.V_slice HO307.out
              (first | subst eo36 | (injection eo36 with f1_ f2_ f3_; have f4_ := f1_.symm; have f5_ := f3_.symm; clear f1_ f2_ f3_; subst f4_; subst f5_))
              refine norm_ (a' := ?_) ?_ ?_
              rotate_left
              ·simp only [putAll, Act.put, List.setIfInBounds_toArray, List.set_cons_zero, List.set_cons_succ]
               rfl
              refine three_ (i := 4) (j := 8) (k := 9) (Ni := some 35) (Nj := some 8) (Nk := some 9) #[true, true, true, true, true, false, false, false, false, false, false, false] #[true, true, true, true, false, false, false, false, true, false, false, false] #[true, true, true, true, false, false, false, false, false, true, false, false] rfl rfl rfl rfl rfl rfl (three_of HT_.out (by kernel_rfl)) (by decide) (by decide) (by decide) (fun K hK => ?_) (fun K hK => ?_) (fun K hK => ?_)
              ·skip
               refine goes_ Try.func39 (by kernel_rfl) rfl #[.agg #[.bool true, .slice A0_1 l0_1.length c0_1], .agg #[.bool t304, .slice Ao36 t305.length co36]] (by rfl) rfl rfl (by (try simp only [List.map_toArray, List.map_cons, List.map_nil]); first | done | rfl | (simp only [List.length_drop, List.length_take]; rfl)) ?_
               with_reducible refine (spec_WideDiv.calls kj3 true _ _ l0_1 t304 _ _ t305 t308 t309 t312 t313 _ ?side1 ?side2 ?side3 ?side4 A26.out).mono ?_
               (case side1 => repeat (first | exact (Kd.C_below HR0_1.out HB.out) | (with_reducible refine Kd.C_alloc ?_ _) | (with_reducible refine Kd.C_drewN ?_ _) | (with_reducible refine Kd.C_drew ?_)))
               (case side2 => exact HC0_1.out)
               (case side3 => repeat (first | exact (Kd.V_reads' HO307.out).2.2 | (with_reducible refine Kd.C_alloc ?_ _) | (with_reducible refine Kd.C_drewN ?_ _) | (with_reducible refine Kd.C_drew ?_)))
               (case side4 => exact (Kd.V_reads' HO307.out).2.1)
               rintro e w37 ⟨v310, v314, rfl, ho0, ho1, hb⟩
               refine ⟨_, rfl, ?_⟩
               have n0_ := Aside0.mk (Kd.V_below (by (with_reducible repeat (first | apply Kd.V_alloc | apply Kd.V_drewN | apply Kd.V_drew)); exact HO_298001.out) hb)
               have n1_ := Aside0.mk (Kd.V_below (by (with_reducible repeat (first | apply Kd.V_alloc | apply Kd.V_drewN | apply Kd.V_drew)); exact HO307.out) hb)
               have n2_ := Aside0.mk (Kd.V_lower (Kd.V_mono (ok' := fun k_ => k_ ≠ gb292 ∧ k_ ≠ gb297) ho0 (fun k_ hk_ => ⟨(Kd.freshB (g := gb292) (o := .cells #[.bool true, .slice A0_1 l0_1.length c0_1] 27 (0, 0)) (by (with_reducible repeat (first | refine blk_drewN ?_ _ | refine blk_drew ?_ | refine blk_alloc ?_ _)); exact BK292.out) k_ hk_), (Kd.freshB (g := gb297) (o := .cells #[.bool t293, .slice Ao10 t294.length co10] 27 (0, 0)) (by (with_reducible repeat (first | refine blk_drewN ?_ _ | refine blk_drew ?_ | refine blk_alloc ?_ _)); exact BK297.out) k_ hk_)⟩)) (below_size (by repeat (first | (with_reducible first | exact HB.out | apply below_alloc | apply pw_below_drewN | apply below_drew1 | refine below_set ?_ GE292.out | refine below_set ?_ GE297.out) | exact HB.out))))
               have n3_ := Aside0.mk (Kd.V_lower (Kd.V_mono (ok' := fun k_ => k_ ≠ gb292 ∧ k_ ≠ gb297) ho1 (fun k_ hk_ => ⟨(Kd.freshB (g := gb292) (o := .cells #[.bool true, .slice A0_1 l0_1.length c0_1] 27 (0, 0)) (by (with_reducible repeat (first | refine blk_drewN ?_ _ | refine blk_drew ?_ | refine blk_alloc ?_ _)); exact BK292.out) k_ hk_), (Kd.freshB (g := gb297) (o := .cells #[.bool t293, .slice Ao10 t294.length co10] 27 (0, 0)) (by (with_reducible repeat (first | refine blk_drewN ?_ _ | refine blk_drew ?_ | refine blk_alloc ?_ _)); exact BK297.out) k_ hk_)⟩)) (below_size (by repeat (first | (with_reducible first | exact HB.out | apply below_alloc | apply pw_below_drewN | apply below_drew1 | refine below_set ?_ GE292.out | refine below_set ?_ GE297.out) | exact HB.out))))
               have n4_ := Aside0.mk (blk_below (g := gb292) (o := .cells #[.bool true, .slice A0_1 l0_1.length c0_1] 27 (0, 0)) (by (with_reducible repeat (first | refine blk_drewN ?_ _ | refine blk_drew ?_ | refine blk_alloc ?_ _)); exact BK292.out) hb)
               have n5_ := Aside0.mk (blk_below (g := gb297) (o := .cells #[.bool t293, .slice Ao10 t294.length co10] 27 (0, 0)) (by (with_reducible repeat (first | refine blk_drewN ?_ _ | refine blk_drew ?_ | refine blk_alloc ?_ _)); exact BK297.out) hb)
               have n6_ := Aside0.mk (below_step (by repeat (first | (with_reducible first | exact HB.out | apply below_alloc | apply pw_below_drewN | apply below_drew1 | refine below_set ?_ GE292.out | refine below_set ?_ GE297.out) | exact HB.out)) hb)
               clear HO_298001 HO307 BK292 BK297 HB
               have HO_298001 := n0_
               have HO307 := n1_
               have HO311 := n2_
               have HO315 := n3_
               have BK292 := n4_
               have BK297 := n5_
               have HB := n6_
               clear n0_ n1_ n2_ n3_ n4_ n5_ n6_
               (try clear hb)
               (try clear hb2)
               (try clear hk)
               (try clear hi)
               (try clear ho0)
               (try clear ho1)
               refine hK.out _ _ ⟨(blk_cell BK292.out 0).trans rfl, (blk_cell BK292.out 1).trans rfl⟩ (fun hHeld => ?_)
               clear hK K
               refine norm_ (a' := ?_) ?_ ?_
               rotate_left
               ·show Act.put _ (some 35) _ = _
                simp only [Act.put, List.setIfInBounds_toArray, List.set_cons_zero, List.set_cons_succ, i64_w, i32_w]
                rfl
               refine pure_ (i := 5) (N := some 30) (v := ?_) (a' := ?_) #[true, true, true, true, true, true, false, false, false, false, false, false] rfl rfl (any_of HT_.out (by kernel_rfl)) (fun _ _ _ h => h) (Or.inl ⟨by rfl, ?_⟩) ?_ ?_
               rotate_left
               ·intro w'
                go_simp
                with_reducible rfl
               rotate_left
               ·simp only [Act.put, List.setIfInBounds_toArray, List.set_cons_zero, List.set_cons_succ, i64_w, i32_w]
                rfl
               refine pure_ (i := 6) (N := some 36) (v := ?_) (a' := ?_) #[true, true, true, true, true, true, true, false, false, false, false, false] rfl rfl (any_of HT_.out (by kernel_rfl)) (fun _ _ _ h => h) (Or.inl ⟨by rfl, ?_⟩) ?_ ?_
               rotate_left
               ·intro w'
                go_simp
                with_reducible rfl
               rotate_left
               ·simp only [Act.put, List.setIfInBounds_toArray, List.set_cons_zero, List.set_cons_succ, i64_w, i32_w]
                rfl
               refine pure_ (i := 7) (N := some 37) (v := ?_) (a' := ?_) #[true, true, true, true, true, true, true, true, false, false, false, false] rfl rfl (any_of HT_.out (by kernel_rfl)) (fun _ _ _ h => h) (Or.inl ⟨by rfl, ?_⟩) ?_ ?_
               rotate_left
               ·intro w'
                go_simp
                with_reducible rfl
               rotate_left
               ·simp only [Act.put, List.setIfInBounds_toArray, List.set_cons_zero, List.set_cons_succ, i64_w, i32_w]
                rfl
               exact norm_ (by first | (simp only [putAll, Act.put, List.setIfInBounds_toArray, List.set_cons_zero, List.set_cons_succ]; done) | (simp only [putAll, Act.put, List.setIfInBounds_toArray, List.set_cons_zero, List.set_cons_succ]; rfl)) (hJ3_4 (.slice Ao36 t305.length co36, v310, v314) _ ⟨hHeld, (by (with_reducible repeat (first | apply Kd.V_alloc | apply Kd.V_drewN | apply Kd.V_drew)); exact HO307.out), (by (with_reducible repeat (first | apply Kd.V_alloc | apply Kd.V_drewN | apply Kd.V_drew)); exact HO311.out), (by (with_reducible repeat (first | apply Kd.V_alloc | apply Kd.V_drewN | apply Kd.V_drew)); exact HO315.out), (by (with_reducible repeat (first | apply Kd.V_alloc | apply Kd.V_drewN | apply Kd.V_drew)); exact HO_298001.out), (by (with_reducible repeat (first | refine blk_drewN ?_ _ | refine blk_drew ?_ | refine blk_alloc ?_ _)); exact BK292.out), (by (with_reducible repeat (first | refine blk_drewN ?_ _ | refine blk_drew ?_ | refine blk_alloc ?_ _)); exact BK297.out), (by repeat (first | (with_reducible first | exact HB.out | apply below_alloc | apply pw_below_drewN | apply below_drew1 | refine below_set ?_ GE292.out | refine below_set ?_ GE297.out) | exact HB.out))⟩)
              ·skip
               refine box_step ?hg (N := 8) ?hd (cs := #[.bool false, .slice none 0 0]) (t := 27) ?hr ?_; (case hd => rfl); (case hg => rfl); (case hr => first | (go_simp; done) | (go_simp; rfl))
               intro gb316 hg w36 hbox hb
               have n0_ := Aside0.mk (Kd.V_below (Kd.V_elderB (by (with_reducible repeat (first | apply Kd.V_alloc | apply Kd.V_drewN | apply Kd.V_drew)); exact HO_298001.out) gb316 (Nat.le_of_eq hg.symm)) hb)
               have n1_ := Aside0.mk (Kd.V_below (Kd.V_elderB (by (with_reducible repeat (first | apply Kd.V_alloc | apply Kd.V_drewN | apply Kd.V_drew)); exact HO307.out) gb316 (Nat.le_of_eq hg.symm)) hb)
               have n2_ := Aside0.mk (blk_below (g := gb292) (o := .cells #[.bool true, .slice A0_1 l0_1.length c0_1] 27 (0, 0)) (by (with_reducible repeat (first | refine blk_drewN ?_ _ | refine blk_drew ?_ | refine blk_alloc ?_ _)); exact BK292.out) hb)
               have n3_ := Aside0.mk (blk_below (g := gb297) (o := .cells #[.bool t293, .slice Ao10 t294.length co10] 27 (0, 0)) (by (with_reducible repeat (first | refine blk_drewN ?_ _ | refine blk_drew ?_ | refine blk_alloc ?_ _)); exact BK297.out) hb)
               have n4_ := Aside0.mk (below_step (by repeat (first | (with_reducible first | exact HB.out | apply below_alloc | apply pw_below_drewN | apply below_drew1 | refine below_set ?_ GE292.out | refine below_set ?_ GE297.out) | exact HB.out)) hb)
               have n5_ := Aside0.mk (hbox)
               have n6_ := Aside0.mk ((by rw [hg]; exact (below_size (by repeat (first | (with_reducible first | exact HB.out | apply below_alloc | apply pw_below_drewN | apply below_drew1 | refine below_set ?_ GE292.out | refine below_set ?_ GE297.out) | exact HB.out))) : w.heap.size ≤ gb316))
               have n7_ := Aside0.mk ((by rw [hg]; exact (below_size (by repeat (first | (with_reducible first | exact HB.out | apply below_alloc | apply pw_below_drewN | apply below_drew1 | refine below_set ?_ GE292.out | refine below_set ?_ GE297.out) | exact HB.out))) : w.heap.size ≤ gb316))
               have n8_ := Aside0.mk ((by rw [hg]; exact Nat.ne_of_lt (blk_lt (g := gb292) (o := .cells #[.bool true, .slice A0_1 l0_1.length c0_1] 27 (0, 0)) (by (with_reducible repeat (first | refine blk_drewN ?_ _ | refine blk_drew ?_ | refine blk_alloc ?_ _)); exact BK292.out)) : gb292 ≠ gb316))
               have n9_ := Aside0.mk ((by rw [hg]; exact Nat.ne_of_gt (blk_lt (g := gb292) (o := .cells #[.bool true, .slice A0_1 l0_1.length c0_1] 27 (0, 0)) (by (with_reducible repeat (first | refine blk_drewN ?_ _ | refine blk_drew ?_ | refine blk_alloc ?_ _)); exact BK292.out)) : gb316 ≠ gb292))
               have n10_ := Aside0.mk ((by rw [hg]; exact Nat.ne_of_lt (blk_lt (g := gb297) (o := .cells #[.bool t293, .slice Ao10 t294.length co10] 27 (0, 0)) (by (with_reducible repeat (first | refine blk_drewN ?_ _ | refine blk_drew ?_ | refine blk_alloc ?_ _)); exact BK297.out)) : gb297 ≠ gb316))
               have n11_ := Aside0.mk ((by rw [hg]; exact Nat.ne_of_gt (blk_lt (g := gb297) (o := .cells #[.bool t293, .slice Ao10 t294.length co10] 27 (0, 0)) (by (with_reducible repeat (first | refine blk_drewN ?_ _ | refine blk_drew ?_ | refine blk_alloc ?_ _)); exact BK297.out)) : gb316 ≠ gb297))
               clear HO_298001 HO307 BK292 BK297 HB
               have HO_298001 := n0_
               have HO307 := n1_
               have BK292 := n2_
               have BK297 := n3_
               have HB := n4_
               have BK316 := n5_
               have GW316 := n6_
               have GE316 := n7_
               have NB292_316 := n8_
               have NB316_292 := n9_
               have NB297_316 := n10_
               have NB316_297 := n11_
               clear n0_ n1_ n2_ n3_ n4_ n5_ n6_ n7_ n8_ n9_ n10_ n11_ hb hbox hg
               refine hK.out _ _ ⟨(blk_cell BK292.out 0).trans rfl, (blk_cell BK292.out 1).trans rfl⟩ (fun hHeld => ?_)
               clear hK K
               refine norm_ (a' := ?_) ?_ ?_
               rotate_left
               ·show Act.put _ (some 8) _ = _
                simp only [Act.put, List.setIfInBounds_toArray, List.set_cons_zero, List.set_cons_succ, i64_w, i32_w]
                rfl
               exact norm_ (by first | (simp only [putAll, Act.put, List.setIfInBounds_toArray, List.set_cons_zero, List.set_cons_succ]; done) | (simp only [putAll, Act.put, List.setIfInBounds_toArray, List.set_cons_zero, List.set_cons_succ]; rfl)) (hJ3_8 ((.slice Ao36 t305.length co36), gb316) _ ⟨hHeld, (by (with_reducible repeat (first | apply Kd.V_alloc | apply Kd.V_drewN | apply Kd.V_drew)); exact Kd.V_mono HO307.out (fun _ hk => ⟨hk.1.1, ⟨hk.1.2, hk.2⟩⟩)), (by (with_reducible repeat (first | apply Kd.V_alloc | apply Kd.V_drewN | apply Kd.V_drew)); exact Kd.V_mono HO_298001.out (fun _ hk => ⟨hk.1.1, ⟨hk.1.2, hk.2⟩⟩)), (by (with_reducible repeat (first | refine blk_drewN ?_ _ | refine blk_drew ?_ | refine blk_alloc ?_ _)); exact BK292.out), (by (with_reducible repeat (first | refine blk_drewN ?_ _ | refine blk_drew ?_ | refine blk_alloc ?_ _)); exact BK297.out), (by (with_reducible repeat (first | refine blk_drewN ?_ _ | refine blk_drew ?_ | refine blk_alloc ?_ _)); exact BK316.out), GW316.out, GE316.out, NB292_316.out, NB316_292.out, NB297_316.out, NB316_297.out, (by repeat (first | (with_reducible first | exact HB.out | apply below_alloc | apply pw_below_drewN | apply below_drew1 | refine below_set ?_ GE292.out | refine below_set ?_ GE297.out | refine below_set ?_ GE316.out) | exact HB.out))⟩)
              ·skip
               refine box_step ?hg (N := 9) ?hd (cs := #[.bool false, .slice none 0 0]) (t := 27) ?hr ?_; (case hd => rfl); (case hg => rfl); (case hr => first | (go_simp; done) | (go_simp; rfl))
               intro gb317 hg w36 hbox hb
               have n0_ := Aside0.mk (Kd.V_below (Kd.V_elderB (by (with_reducible repeat (first | apply Kd.V_alloc | apply Kd.V_drewN | apply Kd.V_drew)); exact HO_298001.out) gb317 (Nat.le_of_eq hg.symm)) hb)
               have n1_ := Aside0.mk (Kd.V_below (Kd.V_elderB (by (with_reducible repeat (first | apply Kd.V_alloc | apply Kd.V_drewN | apply Kd.V_drew)); exact HO307.out) gb317 (Nat.le_of_eq hg.symm)) hb)
               have n2_ := Aside0.mk (blk_below (g := gb292) (o := .cells #[.bool true, .slice A0_1 l0_1.length c0_1] 27 (0, 0)) (by (with_reducible repeat (first | refine blk_drewN ?_ _ | refine blk_drew ?_ | refine blk_alloc ?_ _)); exact BK292.out) hb)
               have n3_ := Aside0.mk (blk_below (g := gb297) (o := .cells #[.bool t293, .slice Ao10 t294.length co10] 27 (0, 0)) (by (with_reducible repeat (first | refine blk_drewN ?_ _ | refine blk_drew ?_ | refine blk_alloc ?_ _)); exact BK297.out) hb)
               have n4_ := Aside0.mk (below_step (by repeat (first | (with_reducible first | exact HB.out | apply below_alloc | apply pw_below_drewN | apply below_drew1 | refine below_set ?_ GE292.out | refine below_set ?_ GE297.out) | exact HB.out)) hb)
               have n5_ := Aside0.mk (hbox)
               have n6_ := Aside0.mk ((by rw [hg]; exact (below_size (by repeat (first | (with_reducible first | exact HB.out | apply below_alloc | apply pw_below_drewN | apply below_drew1 | refine below_set ?_ GE292.out | refine below_set ?_ GE297.out) | exact HB.out))) : w.heap.size ≤ gb317))
               have n7_ := Aside0.mk ((by rw [hg]; exact (below_size (by repeat (first | (with_reducible first | exact HB.out | apply below_alloc | apply pw_below_drewN | apply below_drew1 | refine below_set ?_ GE292.out | refine below_set ?_ GE297.out) | exact HB.out))) : w.heap.size ≤ gb317))
               have n8_ := Aside0.mk ((by rw [hg]; exact Nat.ne_of_lt (blk_lt (g := gb292) (o := .cells #[.bool true, .slice A0_1 l0_1.length c0_1] 27 (0, 0)) (by (with_reducible repeat (first | refine blk_drewN ?_ _ | refine blk_drew ?_ | refine blk_alloc ?_ _)); exact BK292.out)) : gb292 ≠ gb317))
               have n9_ := Aside0.mk ((by rw [hg]; exact Nat.ne_of_gt (blk_lt (g := gb292) (o := .cells #[.bool true, .slice A0_1 l0_1.length c0_1] 27 (0, 0)) (by (with_reducible repeat (first | refine blk_drewN ?_ _ | refine blk_drew ?_ | refine blk_alloc ?_ _)); exact BK292.out)) : gb317 ≠ gb292))
               have n10_ := Aside0.mk ((by rw [hg]; exact Nat.ne_of_lt (blk_lt (g := gb297) (o := .cells #[.bool t293, .slice Ao10 t294.length co10] 27 (0, 0)) (by (with_reducible repeat (first | refine blk_drewN ?_ _ | refine blk_drew ?_ | refine blk_alloc ?_ _)); exact BK297.out)) : gb297 ≠ gb317))
               have n11_ := Aside0.mk ((by rw [hg]; exact Nat.ne_of_gt (blk_lt (g := gb297) (o := .cells #[.bool t293, .slice Ao10 t294.length co10] 27 (0, 0)) (by (with_reducible repeat (first | refine blk_drewN ?_ _ | refine blk_drew ?_ | refine blk_alloc ?_ _)); exact BK297.out)) : gb317 ≠ gb297))
               clear HO_298001 HO307 BK292 BK297 HB
               have HO_298001 := n0_
               have HO307 := n1_
               have BK292 := n2_
               have BK297 := n3_
               have HB := n4_
               have BK317 := n5_
               have GW317 := n6_
               have GE317 := n7_
               have NB292_317 := n8_
               have NB317_292 := n9_
               have NB297_317 := n10_
               have NB317_297 := n11_
               clear n0_ n1_ n2_ n3_ n4_ n5_ n6_ n7_ n8_ n9_ n10_ n11_ hb hbox hg
               refine hK.out _ _ ⟨(blk_cell BK292.out 0).trans rfl, (blk_cell BK292.out 1).trans rfl⟩ (fun hHeld => ?_)
               clear hK K
               refine norm_ (a' := ?_) ?_ ?_
               rotate_left
               ·show Act.put _ (some 9) _ = _
                simp only [Act.put, List.setIfInBounds_toArray, List.set_cons_zero, List.set_cons_succ, i64_w, i32_w]
                rfl
               exact norm_ (by first | (simp only [putAll, Act.put, List.setIfInBounds_toArray, List.set_cons_zero, List.set_cons_succ]; done) | (simp only [putAll, Act.put, List.setIfInBounds_toArray, List.set_cons_zero, List.set_cons_succ]; rfl)) (hJ3_9 ((.slice Ao36 t305.length co36), gb317) _ ⟨hHeld, (by (with_reducible repeat (first | apply Kd.V_alloc | apply Kd.V_drewN | apply Kd.V_drew)); exact Kd.V_mono HO307.out (fun _ hk => ⟨hk.1.1, ⟨hk.1.2, hk.2⟩⟩)), (by (with_reducible repeat (first | apply Kd.V_alloc | apply Kd.V_drewN | apply Kd.V_drew)); exact Kd.V_mono HO_298001.out (fun _ hk => ⟨hk.1.1, ⟨hk.1.2, hk.2⟩⟩)), (by (with_reducible repeat (first | refine blk_drewN ?_ _ | refine blk_drew ?_ | refine blk_alloc ?_ _)); exact BK292.out), (by (with_reducible repeat (first | refine blk_drewN ?_ _ | refine blk_drew ?_ | refine blk_alloc ?_ _)); exact BK297.out), (by (with_reducible repeat (first | refine blk_drewN ?_ _ | refine blk_drew ?_ | refine blk_alloc ?_ _)); exact BK317.out), GW317.out, GE317.out, NB292_317.out, NB317_292.out, NB297_317.out, NB317_297.out, (by repeat (first | (with_reducible first | exact HB.out | apply below_alloc | apply pw_below_drewN | apply below_drew1 | refine below_set ?_ GE292.out | refine below_set ?_ GE297.out | refine below_set ?_ GE317.out) | exact HB.out))⟩)
            ·skip
             rintro ⟨gb316, gb317⟩ w36 ⟨hS_, h0_, h1_, h2_, h3_, h4_, h5_, h6_, h7_, h8_, h9_, h10_, h11_, h12_, h13_, h14_, h15_, h16_, h17_, h18_, h19_⟩
             have n0_ : Aside0 (Kd.V (Kd.int .u32) 44 w36 w.heap.size (fun k_ => k_ ≠ gb292 ∧ k_ ≠ gb297 ∧ k_ ≠ gb316 ∧ k_ ≠ gb317) (.slice Ao10 t294.length co10) t294) := ⟨h0_⟩
             have n1_ : Aside0 (w36.heap[gb292]? = some (.cells #[.bool true, .slice A0_1 l0_1.length c0_1] 27 (0, 0))) := ⟨h1_⟩
             have n2_ : Aside0 (w36.heap[gb297]? = some (.cells #[.bool t293, .slice Ao10 t294.length co10] 27 (0, 0))) := ⟨h2_⟩
             have n3_ : Aside0 (w36.heap[gb316]? = some (.cells #[.bool false, .slice none 0 0] 27 (0, 0))) := ⟨h3_⟩
             have n4_ : Aside0 (w36.heap[gb317]? = some (.cells #[.bool false, .slice none 0 0] 27 (0, 0))) := ⟨h4_⟩
             have n5_ : Aside0 (w.heap.size ≤ gb316) := ⟨h5_⟩
             have n6_ : Aside0 (w.heap.size ≤ gb316) := ⟨h6_⟩
             have n7_ : Aside0 (gb292 ≠ gb316) := ⟨h7_⟩
             have n8_ : Aside0 (gb316 ≠ gb292) := ⟨h8_⟩
             have n9_ : Aside0 (gb297 ≠ gb316) := ⟨h9_⟩
             have n10_ : Aside0 (gb316 ≠ gb297) := ⟨h10_⟩
             have n11_ : Aside0 (gb317 ≠ gb316) := ⟨h11_⟩
             have n12_ : Aside0 (gb316 ≠ gb317) := ⟨h12_⟩
             have n13_ : Aside0 (w.heap.size ≤ gb317) := ⟨h13_⟩
             have n14_ : Aside0 (w.heap.size ≤ gb317) := ⟨h14_⟩
             have n15_ : Aside0 (gb292 ≠ gb317) := ⟨h15_⟩
             have n16_ : Aside0 (gb317 ≠ gb292) := ⟨h16_⟩
             have n17_ : Aside0 (gb297 ≠ gb317) := ⟨h17_⟩
             have n18_ : Aside0 (gb317 ≠ gb297) := ⟨h18_⟩
             have n19_ : Aside0 (Below w.heap.size w w36) := ⟨h19_⟩
             clear HO_298001 BK292 BK297 HB h0_ h1_ h2_ h3_ h4_ h5_ h6_ h7_ h8_ h9_ h10_ h11_ h12_ h13_ h14_ h15_ h16_ h17_ h18_ h19_
             have HO_298001 := n0_
             have BK292 := n1_
             have BK297 := n2_
             have BK316 := n3_
             have BK317 := n4_
             have GW316 := n5_
             have GE316 := n6_
             have NB292_316 := n7_
             have NB316_292 := n8_
             have NB297_316 := n9_
             have NB316_297 := n10_
             have NB317_316 := n11_
             have NB316_317 := n12_
             have GW317 := n13_
             have GE317 := n14_
             have NB292_317 := n15_
             have NB317_292 := n16_
             have NB297_317 := n17_
             have NB317_297 := n18_
             have HB := n19_
             clear n0_ n1_ n2_ n3_ n4_ n5_ n6_ n7_ n8_ n9_ n10_ n11_ n12_ n13_ n14_ n15_ n16_ n17_ n18_ n19_
             have hHeld : w36.cell? ⟨gb292, 0, none⟩ = some (.bool true) ∧ w36.cell? ⟨gb292, 1, none⟩ = some (.slice A0_1 l0_1.length c0_1) := hS_
             refine norm_ (a' := ?_) ?_ ?_
             rotate_left
             ·simp only [putAll, Act.put, List.setIfInBounds_toArray, List.set_cons_zero, List.set_cons_succ]
              rfl
             refine one_ (i := 3) (N := some 34) #[true, true, true, true, false, false, false, false, true, true, false, false] rfl rfl (one_of HT_.out (by kernel_rfl)) (by decide) (fun K hK => ?_)
             refine goes_ Try.func36 (by kernel_rfl) rfl #[.int .i64 (wrap64 (64 * a1))] (by rfl) rfl rfl (by (try simp only [List.map_toArray, List.map_cons, List.map_nil]); first | done | rfl | (simp only [List.length_drop, List.length_take]; rfl)) ?_
             with_reducible refine (spec_Two.calls kj3 (wrap64 (64 * a1)) t304 t305 _ A25.out).mono ?_
             rintro e w37 ⟨v306, rfl, ho0, hb⟩
             refine ⟨_, rfl, ?_⟩
             have n0_ := Aside0.mk (Kd.V_below (by (with_reducible repeat (first | apply Kd.V_alloc | apply Kd.V_drewN | apply Kd.V_drew)); exact HO_298001.out) hb)
             have n1_ := Aside0.mk (Kd.V_lower (Kd.V_mono (ok' := fun k_ => k_ ≠ gb292 ∧ k_ ≠ gb297 ∧ k_ ≠ gb316 ∧ k_ ≠ gb317) ho0 (fun k_ hk_ => ⟨(Kd.freshB (g := gb292) (o := .cells #[.bool true, .slice A0_1 l0_1.length c0_1] 27 (0, 0)) (by (with_reducible repeat (first | refine blk_drewN ?_ _ | refine blk_drew ?_ | refine blk_alloc ?_ _)); exact BK292.out) k_ hk_), (Kd.freshB (g := gb297) (o := .cells #[.bool t293, .slice Ao10 t294.length co10] 27 (0, 0)) (by (with_reducible repeat (first | refine blk_drewN ?_ _ | refine blk_drew ?_ | refine blk_alloc ?_ _)); exact BK297.out) k_ hk_), (Kd.freshB (g := gb316) (o := .cells #[.bool false, .slice none 0 0] 27 (0, 0)) (by (with_reducible repeat (first | refine blk_drewN ?_ _ | refine blk_drew ?_ | refine blk_alloc ?_ _)); exact BK316.out) k_ hk_), (Kd.freshB (g := gb317) (o := .cells #[.bool false, .slice none 0 0] 27 (0, 0)) (by (with_reducible repeat (first | refine blk_drewN ?_ _ | refine blk_drew ?_ | refine blk_alloc ?_ _)); exact BK317.out) k_ hk_)⟩)) (below_size (by repeat (first | (with_reducible first | exact HB.out | apply below_alloc | apply pw_below_drewN | apply below_drew1 | refine below_set ?_ GE292.out | refine below_set ?_ GE297.out | refine below_set ?_ GE316.out | refine below_set ?_ GE317.out) | exact HB.out))))
             have n2_ := Aside0.mk (blk_below (g := gb292) (o := .cells #[.bool true, .slice A0_1 l0_1.length c0_1] 27 (0, 0)) (by (with_reducible repeat (first | refine blk_drewN ?_ _ | refine blk_drew ?_ | refine blk_alloc ?_ _)); exact BK292.out) hb)
             have n3_ := Aside0.mk (blk_below (g := gb297) (o := .cells #[.bool t293, .slice Ao10 t294.length co10] 27 (0, 0)) (by (with_reducible repeat (first | refine blk_drewN ?_ _ | refine blk_drew ?_ | refine blk_alloc ?_ _)); exact BK297.out) hb)
             have n4_ := Aside0.mk (blk_below (g := gb316) (o := .cells #[.bool false, .slice none 0 0] 27 (0, 0)) (by (with_reducible repeat (first | refine blk_drewN ?_ _ | refine blk_drew ?_ | refine blk_alloc ?_ _)); exact BK316.out) hb)
             have n5_ := Aside0.mk (blk_below (g := gb317) (o := .cells #[.bool false, .slice none 0 0] 27 (0, 0)) (by (with_reducible repeat (first | refine blk_drewN ?_ _ | refine blk_drew ?_ | refine blk_alloc ?_ _)); exact BK317.out) hb)
             have n6_ := Aside0.mk (below_step (by repeat (first | (with_reducible first | exact HB.out | apply below_alloc | apply pw_below_drewN | apply below_drew1 | refine below_set ?_ GE292.out | refine below_set ?_ GE297.out | refine below_set ?_ GE316.out | refine below_set ?_ GE317.out) | exact HB.out)) hb)
             clear HO_298001 BK292 BK297 BK316 BK317 HB
             have HO_298001 := n0_
             have HO307 := n1_
             have BK292 := n2_
             have BK297 := n3_
             have BK316 := n4_
             have BK317 := n5_
             have HB := n6_
             clear n0_ n1_ n2_ n3_ n4_ n5_ n6_
             (try clear hb)
             (try clear hb2)
             (try clear hk)
             (try clear hi)
             (try clear ho0)
             refine hK.out _ _ ⟨(blk_cell BK292.out 0).trans rfl, (blk_cell BK292.out 1).trans rfl⟩ (fun hHeld => ?_)
             clear hK K
             refine norm_ (a' := ?_) ?_ ?_
             rotate_left
             ·show Act.put _ (some 34) _ = _
              simp only [Act.put, List.setIfInBounds_toArray, List.set_cons_zero, List.set_cons_succ, i64_w, i32_w]
              rfl
             exact norm_ (by first | (simp only [putAll, Act.put, List.setIfInBounds_toArray, List.set_cons_zero, List.set_cons_succ]; done) | (simp only [putAll, Act.put, List.setIfInBounds_toArray, List.set_cons_zero, List.set_cons_succ]; rfl)) (hJ3_8_9 (v306, gb316, gb317) _ ⟨hHeld, (by (with_reducible repeat (first | apply Kd.V_alloc | apply Kd.V_drewN | apply Kd.V_drew)); exact HO307.out), (by (with_reducible repeat (first | apply Kd.V_alloc | apply Kd.V_drewN | apply Kd.V_drew)); exact HO_298001.out), (by (with_reducible repeat (first | refine blk_drewN ?_ _ | refine blk_drew ?_ | refine blk_alloc ?_ _)); exact BK292.out), (by (with_reducible repeat (first | refine blk_drewN ?_ _ | refine blk_drew ?_ | refine blk_alloc ?_ _)); exact BK297.out), (by (with_reducible repeat (first | refine blk_drewN ?_ _ | refine blk_drew ?_ | refine blk_alloc ?_ _)); exact BK316.out), (by (with_reducible repeat (first | refine blk_drewN ?_ _ | refine blk_drew ?_ | refine blk_alloc ?_ _)); exact BK317.out), GW316.out, GE316.out, NB292_316.out, NB316_292.out, NB297_316.out, NB316_297.out, NB317_316.out, NB316_317.out, GW317.out, GE317.out, NB292_317.out, NB317_292.out, NB297_317.out, NB317_297.out, (by repeat (first | (with_reducible first | exact HB.out | apply below_alloc | apply pw_below_drewN | apply below_drew1 | refine below_set ?_ GE292.out | refine below_set ?_ GE297.out | refine below_set ?_ GE316.out | refine below_set ?_ GE317.out) | exact HB.out))⟩)
           ·skip
            rintro ⟨v306, gb317⟩ w36 ⟨hS_, h0_, h1_, h2_, h3_, h4_, h5_, h6_, h7_, h8_, h9_, h10_, h11_⟩
            have n0_ : Aside0 (Kd.V (Kd.int .u32) 44 w36 w.heap.size (fun k_ => k_ ≠ gb292 ∧ k_ ≠ gb297 ∧ k_ ≠ gb317) v306 t305) := ⟨h0_⟩
            have n1_ : Aside0 (Kd.V (Kd.int .u32) 44 w36 w.heap.size (fun k_ => k_ ≠ gb292 ∧ k_ ≠ gb297 ∧ k_ ≠ gb317) (.slice Ao10 t294.length co10) t294) := ⟨h1_⟩
            have n2_ : Aside0 (w36.heap[gb292]? = some (.cells #[.bool true, .slice A0_1 l0_1.length c0_1] 27 (0, 0))) := ⟨h2_⟩
            have n3_ : Aside0 (w36.heap[gb297]? = some (.cells #[.bool t293, .slice Ao10 t294.length co10] 27 (0, 0))) := ⟨h3_⟩
            have n4_ : Aside0 (w36.heap[gb317]? = some (.cells #[.bool false, .slice none 0 0] 27 (0, 0))) := ⟨h4_⟩
            have n5_ : Aside0 (w.heap.size ≤ gb317) := ⟨h5_⟩
            have n6_ : Aside0 (w.heap.size ≤ gb317) := ⟨h6_⟩
            have n7_ : Aside0 (gb292 ≠ gb317) := ⟨h7_⟩
            have n8_ : Aside0 (gb317 ≠ gb292) := ⟨h8_⟩
            have n9_ : Aside0 (gb297 ≠ gb317) := ⟨h9_⟩
            have n10_ : Aside0 (gb317 ≠ gb297) := ⟨h10_⟩
            have n11_ : Aside0 (Below w.heap.size w w36) := ⟨h11_⟩
            clear HO_298001 BK292 BK297 HB h0_ h1_ h2_ h3_ h4_ h5_ h6_ h7_ h8_ h9_ h10_ h11_
            have HO307 := n0_
            have HO_298001 := n1_
            have BK292 := n2_
            have BK297 := n3_
            have BK317 := n4_
            have GW317 := n5_
            have GE317 := n6_
            have NB292_317 := n7_
            have NB317_292 := n8_
            have NB297_317 := n9_
            have NB317_297 := n10_
            have HB := n11_
            clear n0_ n1_ n2_ n3_ n4_ n5_ n6_ n7_ n8_ n9_ n10_ n11_
            have hHeld : w36.cell? ⟨gb292, 0, none⟩ = some (.bool true) ∧ w36.cell? ⟨gb292, 1, none⟩ = some (.slice A0_1 l0_1.length c0_1) := hS_
            obtain ⟨Ao37, co37, eo37⟩ := Kd.V_slice HO307.out
            (first | subst eo37 | (injection eo37 with f1_ f2_ f3_; have f4_ := f1_.symm; have f5_ := f3_.symm; clear f1_ f2_ f3_; subst f4_; subst f5_))
            refine norm_ (a' := ?_) ?_ ?_
            rotate_left
            ·simp only [putAll, Act.put, List.setIfInBounds_toArray, List.set_cons_zero, List.set_cons_succ]
             rfl
            refine two_ (i := 4) (j := 8) (Ni := some 35) (Nj := some 8) #[true, true, true, true, true, false, false, false, false, true, false, false] #[true, true, true, true, false, false, false, false, true, true, false, false] rfl rfl rfl rfl (two_of HT_.out (by kernel_rfl)) (by decide) (by decide) (fun K hK => ?_) (fun K hK => ?_)
            ·skip
             refine goes_ Try.func39 (by kernel_rfl) rfl #[.agg #[.bool true, .slice A0_1 l0_1.length c0_1], .agg #[.bool t304, .slice Ao37 t305.length co37]] (by rfl) rfl rfl (by (try simp only [List.map_toArray, List.map_cons, List.map_nil]); first | done | rfl | (simp only [List.length_drop, List.length_take]; rfl)) ?_
             with_reducible refine (spec_WideDiv.calls kj3 true _ _ l0_1 t304 _ _ t305 t308 t309 t312 t313 _ ?side1 ?side2 ?side3 ?side4 A26.out).mono ?_
             (case side1 => repeat (first | exact (Kd.C_below HR0_1.out HB.out) | (with_reducible refine Kd.C_alloc ?_ _) | (with_reducible refine Kd.C_drewN ?_ _) | (with_reducible refine Kd.C_drew ?_)))
             (case side2 => exact HC0_1.out)
             (case side3 => repeat (first | exact (Kd.V_reads' HO307.out).2.2 | (with_reducible refine Kd.C_alloc ?_ _) | (with_reducible refine Kd.C_drewN ?_ _) | (with_reducible refine Kd.C_drew ?_)))
             (case side4 => exact (Kd.V_reads' HO307.out).2.1)
             rintro e w38 ⟨v310, v314, rfl, ho0, ho1, hb⟩
             refine ⟨_, rfl, ?_⟩
             have n0_ := Aside0.mk (Kd.V_below (by (with_reducible repeat (first | apply Kd.V_alloc | apply Kd.V_drewN | apply Kd.V_drew)); exact HO_298001.out) hb)
             have n1_ := Aside0.mk (Kd.V_below (by (with_reducible repeat (first | apply Kd.V_alloc | apply Kd.V_drewN | apply Kd.V_drew)); exact HO307.out) hb)
             have n2_ := Aside0.mk (Kd.V_lower (Kd.V_mono (ok' := fun k_ => k_ ≠ gb292 ∧ k_ ≠ gb297 ∧ k_ ≠ gb317) ho0 (fun k_ hk_ => ⟨(Kd.freshB (g := gb292) (o := .cells #[.bool true, .slice A0_1 l0_1.length c0_1] 27 (0, 0)) (by (with_reducible repeat (first | refine blk_drewN ?_ _ | refine blk_drew ?_ | refine blk_alloc ?_ _)); exact BK292.out) k_ hk_), (Kd.freshB (g := gb297) (o := .cells #[.bool t293, .slice Ao10 t294.length co10] 27 (0, 0)) (by (with_reducible repeat (first | refine blk_drewN ?_ _ | refine blk_drew ?_ | refine blk_alloc ?_ _)); exact BK297.out) k_ hk_), (Kd.freshB (g := gb317) (o := .cells #[.bool false, .slice none 0 0] 27 (0, 0)) (by (with_reducible repeat (first | refine blk_drewN ?_ _ | refine blk_drew ?_ | refine blk_alloc ?_ _)); exact BK317.out) k_ hk_)⟩)) (below_size (by repeat (first | (with_reducible first | exact HB.out | apply below_alloc | apply pw_below_drewN | apply below_drew1 | refine below_set ?_ GE292.out | refine below_set ?_ GE297.out | refine below_set ?_ GE317.out) | exact HB.out))))
             have n3_ := Aside0.mk (Kd.V_lower (Kd.V_mono (ok' := fun k_ => k_ ≠ gb292 ∧ k_ ≠ gb297 ∧ k_ ≠ gb317) ho1 (fun k_ hk_ => ⟨(Kd.freshB (g := gb292) (o := .cells #[.bool true, .slice A0_1 l0_1.length c0_1] 27 (0, 0)) (by (with_reducible repeat (first | refine blk_drewN ?_ _ | refine blk_drew ?_ | refine blk_alloc ?_ _)); exact BK292.out) k_ hk_), (Kd.freshB (g := gb297) (o := .cells #[.bool t293, .slice Ao10 t294.length co10] 27 (0, 0)) (by (with_reducible repeat (first | refine blk_drewN ?_ _ | refine blk_drew ?_ | refine blk_alloc ?_ _)); exact BK297.out) k_ hk_), (Kd.freshB (g := gb317) (o := .cells #[.bool false, .slice none 0 0] 27 (0, 0)) (by (with_reducible repeat (first | refine blk_drewN ?_ _ | refine blk_drew ?_ | refine blk_alloc ?_ _)); exact BK317.out) k_ hk_)⟩)) (below_size (by repeat (first | (with_reducible first | exact HB.out | apply below_alloc | apply pw_below_drewN | apply below_drew1 | refine below_set ?_ GE292.out | refine below_set ?_ GE297.out | refine below_set ?_ GE317.out) | exact HB.out))))
             have n4_ := Aside0.mk (blk_below (g := gb292) (o := .cells #[.bool true, .slice A0_1 l0_1.length c0_1] 27 (0, 0)) (by (with_reducible repeat (first | refine blk_drewN ?_ _ | refine blk_drew ?_ | refine blk_alloc ?_ _)); exact BK292.out) hb)
             have n5_ := Aside0.mk (blk_below (g := gb297) (o := .cells #[.bool t293, .slice Ao10 t294.length co10] 27 (0, 0)) (by (with_reducible repeat (first | refine blk_drewN ?_ _ | refine blk_drew ?_ | refine blk_alloc ?_ _)); exact BK297.out) hb)
             have n6_ := Aside0.mk (blk_below (g := gb317) (o := .cells #[.bool false, .slice none 0 0] 27 (0, 0)) (by (with_reducible repeat (first | refine blk_drewN ?_ _ | refine blk_drew ?_ | refine blk_alloc ?_ _)); exact BK317.out) hb)
             have n7_ := Aside0.mk (below_step (by repeat (first | (with_reducible first | exact HB.out | apply below_alloc | apply pw_below_drewN | apply below_drew1 | refine below_set ?_ GE292.out | refine below_set ?_ GE297.out | refine below_set ?_ GE317.out) | exact HB.out)) hb)
             clear HO_298001 HO307 BK292 BK297 BK317 HB
             have HO_298001 := n0_
             have HO307 := n1_
             have HO311 := n2_
             have HO315 := n3_
             have BK292 := n4_
             have BK297 := n5_
             have BK317 := n6_
             have HB := n7_
             clear n0_ n1_ n2_ n3_ n4_ n5_ n6_ n7_
             (try clear hb)
             (try clear hb2)
             (try clear hk)
             (try clear hi)
             (try clear ho0)
             (try clear ho1)
             refine hK.out _ _ ⟨(blk_cell BK292.out 0).trans rfl, (blk_cell BK292.out 1).trans rfl⟩ (fun hHeld => ?_)
             clear hK K
             refine norm_ (a' := ?_) ?_ ?_
             rotate_left
             ·show Act.put _ (some 35) _ = _
              simp only [Act.put, List.setIfInBounds_toArray, List.set_cons_zero, List.set_cons_succ, i64_w, i32_w]
              rfl
             refine pure_ (i := 5) (N := some 30) (v := ?_) (a' := ?_) #[true, true, true, true, true, true, false, false, false, true, false, false] rfl rfl (any_of HT_.out (by kernel_rfl)) (fun _ _ _ h => h) (Or.inl ⟨by rfl, ?_⟩) ?_ ?_
             rotate_left
             ·intro w'
              go_simp
              with_reducible rfl
             rotate_left
             ·simp only [Act.put, List.setIfInBounds_toArray, List.set_cons_zero, List.set_cons_succ, i64_w, i32_w]
              rfl
             refine pure_ (i := 6) (N := some 36) (v := ?_) (a' := ?_) #[true, true, true, true, true, true, true, false, false, true, false, false] rfl rfl (any_of HT_.out (by kernel_rfl)) (fun _ _ _ h => h) (Or.inl ⟨by rfl, ?_⟩) ?_ ?_
             rotate_left
             ·intro w'
              go_simp
              with_reducible rfl
             rotate_left
             ·simp only [Act.put, List.setIfInBounds_toArray, List.set_cons_zero, List.set_cons_succ, i64_w, i32_w]
              rfl
             refine pure_ (i := 7) (N := some 37) (v := ?_) (a' := ?_) #[true, true, true, true, true, true, true, true, false, true, false, false] rfl rfl (any_of HT_.out (by kernel_rfl)) (fun _ _ _ h => h) (Or.inl ⟨by rfl, ?_⟩) ?_ ?_
             rotate_left
             ·intro w'
              go_simp
              with_reducible rfl
             rotate_left
             ·simp only [Act.put, List.setIfInBounds_toArray, List.set_cons_zero, List.set_cons_succ, i64_w, i32_w]
              rfl
             exact norm_ (by first | (simp only [putAll, Act.put, List.setIfInBounds_toArray, List.set_cons_zero, List.set_cons_succ]; done) | (simp only [putAll, Act.put, List.setIfInBounds_toArray, List.set_cons_zero, List.set_cons_succ]; rfl)) (hJ3_4_9 (.slice Ao37 t305.length co37, v310, v314, gb317) _ ⟨hHeld, (by (with_reducible repeat (first | apply Kd.V_alloc | apply Kd.V_drewN | apply Kd.V_drew)); exact HO307.out), (by (with_reducible repeat (first | apply Kd.V_alloc | apply Kd.V_drewN | apply Kd.V_drew)); exact HO311.out), (by (with_reducible repeat (first | apply Kd.V_alloc | apply Kd.V_drewN | apply Kd.V_drew)); exact HO315.out), (by (with_reducible repeat (first | apply Kd.V_alloc | apply Kd.V_drewN | apply Kd.V_drew)); exact HO_298001.out), (by (with_reducible repeat (first | refine blk_drewN ?_ _ | refine blk_drew ?_ | refine blk_alloc ?_ _)); exact BK292.out), (by (with_reducible repeat (first | refine blk_drewN ?_ _ | refine blk_drew ?_ | refine blk_alloc ?_ _)); exact BK297.out), (by (with_reducible repeat (first | refine blk_drewN ?_ _ | refine blk_drew ?_ | refine blk_alloc ?_ _)); exact BK317.out), GW317.out, GE317.out, NB292_317.out, NB317_292.out, NB297_317.out, NB317_297.out, (by repeat (first | (with_reducible first | exact HB.out | apply below_alloc | apply pw_below_drewN | apply below_drew1 | refine below_set ?_ GE292.out | refine below_set ?_ GE297.out | refine below_set ?_ GE317.out) | exact HB.out))⟩)
            ·skip
             refine box_step ?hg (N := 8) ?hd (cs := #[.bool false, .slice none 0 0]) (t := 27) ?hr ?_; (case hd => rfl); (case hg => rfl); (case hr => first | (go_simp; done) | (go_simp; rfl))
             intro gb316 hg w37 hbox hb
             have n0_ := Aside0.mk (Kd.V_below (Kd.V_elderB (by (with_reducible repeat (first | apply Kd.V_alloc | apply Kd.V_drewN | apply Kd.V_drew)); exact HO_298001.out) gb316 (Nat.le_of_eq hg.symm)) hb)
             have n1_ := Aside0.mk (Kd.V_below (Kd.V_elderB (by (with_reducible repeat (first | apply Kd.V_alloc | apply Kd.V_drewN | apply Kd.V_drew)); exact HO307.out) gb316 (Nat.le_of_eq hg.symm)) hb)
             have n2_ := Aside0.mk (blk_below (g := gb292) (o := .cells #[.bool true, .slice A0_1 l0_1.length c0_1] 27 (0, 0)) (by (with_reducible repeat (first | refine blk_drewN ?_ _ | refine blk_drew ?_ | refine blk_alloc ?_ _)); exact BK292.out) hb)
             have n3_ := Aside0.mk (blk_below (g := gb297) (o := .cells #[.bool t293, .slice Ao10 t294.length co10] 27 (0, 0)) (by (with_reducible repeat (first | refine blk_drewN ?_ _ | refine blk_drew ?_ | refine blk_alloc ?_ _)); exact BK297.out) hb)
             have n4_ := Aside0.mk (blk_below (g := gb317) (o := .cells #[.bool false, .slice none 0 0] 27 (0, 0)) (by (with_reducible repeat (first | refine blk_drewN ?_ _ | refine blk_drew ?_ | refine blk_alloc ?_ _)); exact BK317.out) hb)
             have n5_ := Aside0.mk (below_step (by repeat (first | (with_reducible first | exact HB.out | apply below_alloc | apply pw_below_drewN | apply below_drew1 | refine below_set ?_ GE292.out | refine below_set ?_ GE297.out | refine below_set ?_ GE317.out) | exact HB.out)) hb)
             have n6_ := Aside0.mk (hbox)
             have n7_ := Aside0.mk ((by rw [hg]; exact (below_size (by repeat (first | (with_reducible first | exact HB.out | apply below_alloc | apply pw_below_drewN | apply below_drew1 | refine below_set ?_ GE292.out | refine below_set ?_ GE297.out | refine below_set ?_ GE317.out) | exact HB.out))) : w.heap.size ≤ gb316))
             have n8_ := Aside0.mk ((by rw [hg]; exact (below_size (by repeat (first | (with_reducible first | exact HB.out | apply below_alloc | apply pw_below_drewN | apply below_drew1 | refine below_set ?_ GE292.out | refine below_set ?_ GE297.out | refine below_set ?_ GE317.out) | exact HB.out))) : w.heap.size ≤ gb316))
             have n9_ := Aside0.mk ((by rw [hg]; exact Nat.ne_of_lt (blk_lt (g := gb292) (o := .cells #[.bool true, .slice A0_1 l0_1.length c0_1] 27 (0, 0)) (by (with_reducible repeat (first | refine blk_drewN ?_ _ | refine blk_drew ?_ | refine blk_alloc ?_ _)); exact BK292.out)) : gb292 ≠ gb316))
             have n10_ := Aside0.mk ((by rw [hg]; exact Nat.ne_of_gt (blk_lt (g := gb292) (o := .cells #[.bool true, .slice A0_1 l0_1.length c0_1] 27 (0, 0)) (by (with_reducible repeat (first | refine blk_drewN ?_ _ | refine blk_drew ?_ | refine blk_alloc ?_ _)); exact BK292.out)) : gb316 ≠ gb292))
             have n11_ := Aside0.mk ((by rw [hg]; exact Nat.ne_of_lt (blk_lt (g := gb297) (o := .cells #[.bool t293, .slice Ao10 t294.length co10] 27 (0, 0)) (by (with_reducible repeat (first | refine blk_drewN ?_ _ | refine blk_drew ?_ | refine blk_alloc ?_ _)); exact BK297.out)) : gb297 ≠ gb316))
             have n12_ := Aside0.mk ((by rw [hg]; exact Nat.ne_of_gt (blk_lt (g := gb297) (o := .cells #[.bool t293, .slice Ao10 t294.length co10] 27 (0, 0)) (by (with_reducible repeat (first | refine blk_drewN ?_ _ | refine blk_drew ?_ | refine blk_alloc ?_ _)); exact BK297.out)) : gb316 ≠ gb297))
             have n13_ := Aside0.mk ((by rw [hg]; exact Nat.ne_of_lt (blk_lt (g := gb317) (o := .cells #[.bool false, .slice none 0 0] 27 (0, 0)) (by (with_reducible repeat (first | refine blk_drewN ?_ _ | refine blk_drew ?_ | refine blk_alloc ?_ _)); exact BK317.out)) : gb317 ≠ gb316))
             have n14_ := Aside0.mk ((by rw [hg]; exact Nat.ne_of_gt (blk_lt (g := gb317) (o := .cells #[.bool false, .slice none 0 0] 27 (0, 0)) (by (with_reducible repeat (first | refine blk_drewN ?_ _ | refine blk_drew ?_ | refine blk_alloc ?_ _)); exact BK317.out)) : gb316 ≠ gb317))
             clear HO_298001 HO307 BK292 BK297 BK317 HB
             have HO_298001 := n0_
             have HO307 := n1_
             have BK292 := n2_
             have BK297 := n3_
             have BK317 := n4_
             have HB := n5_
             have BK316 := n6_
             have GW316 := n7_
             have GE316 := n8_
             have NB292_316 := n9_
             have NB316_292 := n10_
             have NB297_316 := n11_
             have NB316_297 := n12_
             have NB317_316 := n13_
             have NB316_317 := n14_
             clear n0_ n1_ n2_ n3_ n4_ n5_ n6_ n7_ n8_ n9_ n10_ n11_ n12_ n13_ n14_ hb hbox hg
             refine hK.out _ _ ⟨(blk_cell BK292.out 0).trans rfl, (blk_cell BK292.out 1).trans rfl⟩ (fun hHeld => ?_)
             clear hK K
             refine norm_ (a' := ?_) ?_ ?_
             rotate_left
             ·show Act.put _ (some 8) _ = _
              simp only [Act.put, List.setIfInBounds_toArray, List.set_cons_zero, List.set_cons_succ, i64_w, i32_w]
              rfl
             exact norm_ (by first | (simp only [putAll, Act.put, List.setIfInBounds_toArray, List.set_cons_zero, List.set_cons_succ]; done) | (simp only [putAll, Act.put, List.setIfInBounds_toArray, List.set_cons_zero, List.set_cons_succ]; rfl)) (hJ3_8_9 ((.slice Ao37 t305.length co37), gb316, gb317) _ ⟨hHeld, (by (with_reducible repeat (first | apply Kd.V_alloc | apply Kd.V_drewN | apply Kd.V_drew)); exact Kd.V_mono HO307.out (fun _ hk => ⟨hk.1.1, ⟨hk.1.2.1, ⟨hk.2, hk.1.2.2⟩⟩⟩)), (by (with_reducible repeat (first | apply Kd.V_alloc | apply Kd.V_drewN | apply Kd.V_drew)); exact Kd.V_mono HO_298001.out (fun _ hk => ⟨hk.1.1, ⟨hk.1.2.1, ⟨hk.2, hk.1.2.2⟩⟩⟩)), (by (with_reducible repeat (first | refine blk_drewN ?_ _ | refine blk_drew ?_ | refine blk_alloc ?_ _)); exact BK292.out), (by (with_reducible repeat (first | refine blk_drewN ?_ _ | refine blk_drew ?_ | refine blk_alloc ?_ _)); exact BK297.out), (by (with_reducible repeat (first | refine blk_drewN ?_ _ | refine blk_drew ?_ | refine blk_alloc ?_ _)); exact BK316.out), (by (with_reducible repeat (first | refine blk_drewN ?_ _ | refine blk_drew ?_ | refine blk_alloc ?_ _)); exact BK317.out), GW316.out, GE316.out, NB292_316.out, NB316_292.out, NB297_316.out, NB316_297.out, NB317_316.out, NB316_317.out, GW317.out, GE317.out, NB292_317.out, NB317_292.out, NB297_317.out, NB317_297.out, (by repeat (first | (with_reducible first | exact HB.out | apply below_alloc | apply pw_below_drewN | apply below_drew1 | refine below_set ?_ GE292.out | refine below_set ?_ GE297.out | refine below_set ?_ GE317.out | refine below_set ?_ GE316.out) | exact HB.out))⟩)
          ·skip
           rintro ⟨v306, gb316⟩ w36 ⟨hS_, h0_, h1_, h2_, h3_, h4_, h5_, h6_, h7_, h8_, h9_, h10_, h11_⟩
           have n0_ : Aside0 (Kd.V (Kd.int .u32) 44 w36 w.heap.size (fun k_ => k_ ≠ gb292 ∧ k_ ≠ gb297 ∧ k_ ≠ gb316) v306 t305) := ⟨h0_⟩
           have n1_ : Aside0 (Kd.V (Kd.int .u32) 44 w36 w.heap.size (fun k_ => k_ ≠ gb292 ∧ k_ ≠ gb297 ∧ k_ ≠ gb316) (.slice Ao10 t294.length co10) t294) := ⟨h1_⟩
           have n2_ : Aside0 (w36.heap[gb292]? = some (.cells #[.bool true, .slice A0_1 l0_1.length c0_1] 27 (0, 0))) := ⟨h2_⟩
           have n3_ : Aside0 (w36.heap[gb297]? = some (.cells #[.bool t293, .slice Ao10 t294.length co10] 27 (0, 0))) := ⟨h3_⟩
           have n4_ : Aside0 (w36.heap[gb316]? = some (.cells #[.bool false, .slice none 0 0] 27 (0, 0))) := ⟨h4_⟩
           have n5_ : Aside0 (w.heap.size ≤ gb316) := ⟨h5_⟩
           have n6_ : Aside0 (w.heap.size ≤ gb316) := ⟨h6_⟩
           have n7_ : Aside0 (gb292 ≠ gb316) := ⟨h7_⟩
           have n8_ : Aside0 (gb316 ≠ gb292) := ⟨h8_⟩
           have n9_ : Aside0 (gb297 ≠ gb316) := ⟨h9_⟩
           have n10_ : Aside0 (gb316 ≠ gb297) := ⟨h10_⟩
           have n11_ : Aside0 (Below w.heap.size w w36) := ⟨h11_⟩
           clear HO_298001 BK292 BK297 HB h0_ h1_ h2_ h3_ h4_ h5_ h6_ h7_ h8_ h9_ h10_ h11_
           have HO307 := n0_
           have HO_298001 := n1_
           have BK292 := n2_
           have BK297 := n3_
           have BK316 := n4_
           have GW316 := n5_
           have GE316 := n6_
           have NB292_316 := n7_
           have NB316_292 := n8_
           have NB297_316 := n9_
           have NB316_297 := n10_
           have HB := n11_
           clear n0_ n1_ n2_ n3_ n4_ n5_ n6_ n7_ n8_ n9_ n10_ n11_
           have hHeld : w36.cell? ⟨gb292, 0, none⟩ = some (.bool true) ∧ w36.cell? ⟨gb292, 1, none⟩ = some (.slice A0_1 l0_1.length c0_1) := hS_
           obtain ⟨Ao37, co37, eo37⟩ := Kd.V_slice HO307.out
           (first | subst eo37 | (injection eo37 with f1_ f2_ f3_; have f4_ := f1_.symm; have f5_ := f3_.symm; clear f1_ f2_ f3_; subst f4_; subst f5_))
           refine norm_ (a' := ?_) ?_ ?_
           rotate_left
           ·simp only [putAll, Act.put, List.setIfInBounds_toArray, List.set_cons_zero, List.set_cons_succ]
            rfl
           refine two_ (i := 4) (j := 9) (Ni := some 35) (Nj := some 9) #[true, true, true, true, true, false, false, false, true, false, false, false] #[true, true, true, true, false, false, false, false, true, true, false, false] rfl rfl rfl rfl (two_of HT_.out (by kernel_rfl)) (by decide) (by decide) (fun K hK => ?_) (fun K hK => ?_)
           ·skip
            refine goes_ Try.func39 (by kernel_rfl) rfl #[.agg #[.bool true, .slice A0_1 l0_1.length c0_1], .agg #[.bool t304, .slice Ao37 t305.length co37]] (by rfl) rfl rfl (by (try simp only [List.map_toArray, List.map_cons, List.map_nil]); first | done | rfl | (simp only [List.length_drop, List.length_take]; rfl)) ?_
            with_reducible refine (spec_WideDiv.calls kj3 true _ _ l0_1 t304 _ _ t305 t308 t309 t312 t313 _ ?side1 ?side2 ?side3 ?side4 A26.out).mono ?_
            (case side1 => repeat (first | exact (Kd.C_below HR0_1.out HB.out) | (with_reducible refine Kd.C_alloc ?_ _) | (with_reducible refine Kd.C_drewN ?_ _) | (with_reducible refine Kd.C_drew ?_)))
            (case side2 => exact HC0_1.out)
            (case side3 => repeat (first | exact (Kd.V_reads' HO307.out).2.2 | (with_reducible refine Kd.C_alloc ?_ _) | (with_reducible refine Kd.C_drewN ?_ _) | (with_reducible refine Kd.C_drew ?_)))
            (case side4 => exact (Kd.V_reads' HO307.out).2.1)
            rintro e w38 ⟨v310, v314, rfl, ho0, ho1, hb⟩
            refine ⟨_, rfl, ?_⟩
            have n0_ := Aside0.mk (Kd.V_below (by (with_reducible repeat (first | apply Kd.V_alloc | apply Kd.V_drewN | apply Kd.V_drew)); exact HO_298001.out) hb)
            have n1_ := Aside0.mk (Kd.V_below (by (with_reducible repeat (first | apply Kd.V_alloc | apply Kd.V_drewN | apply Kd.V_drew)); exact HO307.out) hb)
            have n2_ := Aside0.mk (Kd.V_lower (Kd.V_mono (ok' := fun k_ => k_ ≠ gb292 ∧ k_ ≠ gb297 ∧ k_ ≠ gb316) ho0 (fun k_ hk_ => ⟨(Kd.freshB (g := gb292) (o := .cells #[.bool true, .slice A0_1 l0_1.length c0_1] 27 (0, 0)) (by (with_reducible repeat (first | refine blk_drewN ?_ _ | refine blk_drew ?_ | refine blk_alloc ?_ _)); exact BK292.out) k_ hk_), (Kd.freshB (g := gb297) (o := .cells #[.bool t293, .slice Ao10 t294.length co10] 27 (0, 0)) (by (with_reducible repeat (first | refine blk_drewN ?_ _ | refine blk_drew ?_ | refine blk_alloc ?_ _)); exact BK297.out) k_ hk_), (Kd.freshB (g := gb316) (o := .cells #[.bool false, .slice none 0 0] 27 (0, 0)) (by (with_reducible repeat (first | refine blk_drewN ?_ _ | refine blk_drew ?_ | refine blk_alloc ?_ _)); exact BK316.out) k_ hk_)⟩)) (below_size (by repeat (first | (with_reducible first | exact HB.out | apply below_alloc | apply pw_below_drewN | apply below_drew1 | refine below_set ?_ GE292.out | refine below_set ?_ GE297.out | refine below_set ?_ GE316.out) | exact HB.out))))
            have n3_ := Aside0.mk (Kd.V_lower (Kd.V_mono (ok' := fun k_ => k_ ≠ gb292 ∧ k_ ≠ gb297 ∧ k_ ≠ gb316) ho1 (fun k_ hk_ => ⟨(Kd.freshB (g := gb292) (o := .cells #[.bool true, .slice A0_1 l0_1.length c0_1] 27 (0, 0)) (by (with_reducible repeat (first | refine blk_drewN ?_ _ | refine blk_drew ?_ | refine blk_alloc ?_ _)); exact BK292.out) k_ hk_), (Kd.freshB (g := gb297) (o := .cells #[.bool t293, .slice Ao10 t294.length co10] 27 (0, 0)) (by (with_reducible repeat (first | refine blk_drewN ?_ _ | refine blk_drew ?_ | refine blk_alloc ?_ _)); exact BK297.out) k_ hk_), (Kd.freshB (g := gb316) (o := .cells #[.bool false, .slice none 0 0] 27 (0, 0)) (by (with_reducible repeat (first | refine blk_drewN ?_ _ | refine blk_drew ?_ | refine blk_alloc ?_ _)); exact BK316.out) k_ hk_)⟩)) (below_size (by repeat (first | (with_reducible first | exact HB.out | apply below_alloc | apply pw_below_drewN | apply below_drew1 | refine below_set ?_ GE292.out | refine below_set ?_ GE297.out | refine below_set ?_ GE316.out) | exact HB.out))))
            have n4_ := Aside0.mk (blk_below (g := gb292) (o := .cells #[.bool true, .slice A0_1 l0_1.length c0_1] 27 (0, 0)) (by (with_reducible repeat (first | refine blk_drewN ?_ _ | refine blk_drew ?_ | refine blk_alloc ?_ _)); exact BK292.out) hb)
            have n5_ := Aside0.mk (blk_below (g := gb297) (o := .cells #[.bool t293, .slice Ao10 t294.length co10] 27 (0, 0)) (by (with_reducible repeat (first | refine blk_drewN ?_ _ | refine blk_drew ?_ | refine blk_alloc ?_ _)); exact BK297.out) hb)
            have n6_ := Aside0.mk (blk_below (g := gb316) (o := .cells #[.bool false, .slice none 0 0] 27 (0, 0)) (by (with_reducible repeat (first | refine blk_drewN ?_ _ | refine blk_drew ?_ | refine blk_alloc ?_ _)); exact BK316.out) hb)
            have n7_ := Aside0.mk (below_step (by repeat (first | (with_reducible first | exact HB.out | apply below_alloc | apply pw_below_drewN | apply below_drew1 | refine below_set ?_ GE292.out | refine below_set ?_ GE297.out | refine below_set ?_ GE316.out) | exact HB.out)) hb)
            clear HO_298001 HO307 BK292 BK297 BK316 HB
            have HO_298001 := n0_
            have HO307 := n1_
            have HO311 := n2_
            have HO315 := n3_
            have BK292 := n4_
            have BK297 := n5_
            have BK316 := n6_
            have HB := n7_
            clear n0_ n1_ n2_ n3_ n4_ n5_ n6_ n7_
            (try clear hb)
            (try clear hb2)
            (try clear hk)
            (try clear hi)
            (try clear ho0)
            (try clear ho1)
            refine hK.out _ _ ⟨(blk_cell BK292.out 0).trans rfl, (blk_cell BK292.out 1).trans rfl⟩ (fun hHeld => ?_)
            clear hK K
            refine norm_ (a' := ?_) ?_ ?_
            rotate_left
            ·show Act.put _ (some 35) _ = _
             simp only [Act.put, List.setIfInBounds_toArray, List.set_cons_zero, List.set_cons_succ, i64_w, i32_w]
             rfl
            refine pure_ (i := 5) (N := some 30) (v := ?_) (a' := ?_) #[true, true, true, true, true, true, false, false, true, false, false, false] rfl rfl (any_of HT_.out (by kernel_rfl)) (fun _ _ _ h => h) (Or.inl ⟨by rfl, ?_⟩) ?_ ?_
            rotate_left
            ·intro w'
             go_simp
             with_reducible rfl
            rotate_left
            ·simp only [Act.put, List.setIfInBounds_toArray, List.set_cons_zero, List.set_cons_succ, i64_w, i32_w]
             rfl
            refine pure_ (i := 6) (N := some 36) (v := ?_) (a' := ?_) #[true, true, true, true, true, true, true, false, true, false, false, false] rfl rfl (any_of HT_.out (by kernel_rfl)) (fun _ _ _ h => h) (Or.inl ⟨by rfl, ?_⟩) ?_ ?_
            rotate_left
            ·intro w'
             go_simp
             with_reducible rfl
            rotate_left
            ·simp only [Act.put, List.setIfInBounds_toArray, List.set_cons_zero, List.set_cons_succ, i64_w, i32_w]
             rfl
            refine pure_ (i := 7) (N := some 37) (v := ?_) (a' := ?_) #[true, true, true, true, true, true, true, true, true, false, false, false] rfl rfl (any_of HT_.out (by kernel_rfl)) (fun _ _ _ h => h) (Or.inl ⟨by rfl, ?_⟩) ?_ ?_
            rotate_left
            ·intro w'
             go_simp
             with_reducible rfl
            rotate_left
            ·simp only [Act.put, List.setIfInBounds_toArray, List.set_cons_zero, List.set_cons_succ, i64_w, i32_w]
             rfl
            exact norm_ (by first | (simp only [putAll, Act.put, List.setIfInBounds_toArray, List.set_cons_zero, List.set_cons_succ]; done) | (simp only [putAll, Act.put, List.setIfInBounds_toArray, List.set_cons_zero, List.set_cons_succ]; rfl)) (hJ3_4_8 (.slice Ao37 t305.length co37, v310, v314, gb316) _ ⟨hHeld, (by (with_reducible repeat (first | apply Kd.V_alloc | apply Kd.V_drewN | apply Kd.V_drew)); exact HO307.out), (by (with_reducible repeat (first | apply Kd.V_alloc | apply Kd.V_drewN | apply Kd.V_drew)); exact HO311.out), (by (with_reducible repeat (first | apply Kd.V_alloc | apply Kd.V_drewN | apply Kd.V_drew)); exact HO315.out), (by (with_reducible repeat (first | apply Kd.V_alloc | apply Kd.V_drewN | apply Kd.V_drew)); exact HO_298001.out), (by (with_reducible repeat (first | refine blk_drewN ?_ _ | refine blk_drew ?_ | refine blk_alloc ?_ _)); exact BK292.out), (by (with_reducible repeat (first | refine blk_drewN ?_ _ | refine blk_drew ?_ | refine blk_alloc ?_ _)); exact BK297.out), (by (with_reducible repeat (first | refine blk_drewN ?_ _ | refine blk_drew ?_ | refine blk_alloc ?_ _)); exact BK316.out), GW316.out, GE316.out, NB292_316.out, NB316_292.out, NB297_316.out, NB316_297.out, (by repeat (first | (with_reducible first | exact HB.out | apply below_alloc | apply pw_below_drewN | apply below_drew1 | refine below_set ?_ GE292.out | refine below_set ?_ GE297.out | refine below_set ?_ GE316.out) | exact HB.out))⟩)
           ·skip
            refine box_step ?hg (N := 9) ?hd (cs := #[.bool false, .slice none 0 0]) (t := 27) ?hr ?_; (case hd => rfl); (case hg => rfl); (case hr => first | (go_simp; done) | (go_simp; rfl))
            intro gb317 hg w37 hbox hb
            have n0_ := Aside0.mk (Kd.V_below (Kd.V_elderB (by (with_reducible repeat (first | apply Kd.V_alloc | apply Kd.V_drewN | apply Kd.V_drew)); exact HO_298001.out) gb317 (Nat.le_of_eq hg.symm)) hb)
            have n1_ := Aside0.mk (Kd.V_below (Kd.V_elderB (by (with_reducible repeat (first | apply Kd.V_alloc | apply Kd.V_drewN | apply Kd.V_drew)); exact HO307.out) gb317 (Nat.le_of_eq hg.symm)) hb)
            have n2_ := Aside0.mk (blk_below (g := gb292) (o := .cells #[.bool true, .slice A0_1 l0_1.length c0_1] 27 (0, 0)) (by (with_reducible repeat (first | refine blk_drewN ?_ _ | refine blk_drew ?_ | refine blk_alloc ?_ _)); exact BK292.out) hb)
            have n3_ := Aside0.mk (blk_below (g := gb297) (o := .cells #[.bool t293, .slice Ao10 t294.length co10] 27 (0, 0)) (by (with_reducible repeat (first | refine blk_drewN ?_ _ | refine blk_drew ?_ | refine blk_alloc ?_ _)); exact BK297.out) hb)
            have n4_ := Aside0.mk (blk_below (g := gb316) (o := .cells #[.bool false, .slice none 0 0] 27 (0, 0)) (by (with_reducible repeat (first | refine blk_drewN ?_ _ | refine blk_drew ?_ | refine blk_alloc ?_ _)); exact BK316.out) hb)
            have n5_ := Aside0.mk (below_step (by repeat (first | (with_reducible first | exact HB.out | apply below_alloc | apply pw_below_drewN | apply below_drew1 | refine below_set ?_ GE292.out | refine below_set ?_ GE297.out | refine below_set ?_ GE316.out) | exact HB.out)) hb)
            have n6_ := Aside0.mk (hbox)
            have n7_ := Aside0.mk ((by rw [hg]; exact (below_size (by repeat (first | (with_reducible first | exact HB.out | apply below_alloc | apply pw_below_drewN | apply below_drew1 | refine below_set ?_ GE292.out | refine below_set ?_ GE297.out | refine below_set ?_ GE316.out) | exact HB.out))) : w.heap.size ≤ gb317))
            have n8_ := Aside0.mk ((by rw [hg]; exact (below_size (by repeat (first | (with_reducible first | exact HB.out | apply below_alloc | apply pw_below_drewN | apply below_drew1 | refine below_set ?_ GE292.out | refine below_set ?_ GE297.out | refine below_set ?_ GE316.out) | exact HB.out))) : w.heap.size ≤ gb317))
            have n9_ := Aside0.mk ((by rw [hg]; exact Nat.ne_of_lt (blk_lt (g := gb292) (o := .cells #[.bool true, .slice A0_1 l0_1.length c0_1] 27 (0, 0)) (by (with_reducible repeat (first | refine blk_drewN ?_ _ | refine blk_drew ?_ | refine blk_alloc ?_ _)); exact BK292.out)) : gb292 ≠ gb317))
            have n10_ := Aside0.mk ((by rw [hg]; exact Nat.ne_of_gt (blk_lt (g := gb292) (o := .cells #[.bool true, .slice A0_1 l0_1.length c0_1] 27 (0, 0)) (by (with_reducible repeat (first | refine blk_drewN ?_ _ | refine blk_drew ?_ | refine blk_alloc ?_ _)); exact BK292.out)) : gb317 ≠ gb292))
            have n11_ := Aside0.mk ((by rw [hg]; exact Nat.ne_of_lt (blk_lt (g := gb297) (o := .cells #[.bool t293, .slice Ao10 t294.length co10] 27 (0, 0)) (by (with_reducible repeat (first | refine blk_drewN ?_ _ | refine blk_drew ?_ | refine blk_alloc ?_ _)); exact BK297.out)) : gb297 ≠ gb317))
            have n12_ := Aside0.mk ((by rw [hg]; exact Nat.ne_of_gt (blk_lt (g := gb297) (o := .cells #[.bool t293, .slice Ao10 t294.length co10] 27 (0, 0)) (by (with_reducible repeat (first | refine blk_drewN ?_ _ | refine blk_drew ?_ | refine blk_alloc ?_ _)); exact BK297.out)) : gb317 ≠ gb297))
            have n13_ := Aside0.mk ((by rw [hg]; exact Nat.ne_of_lt (blk_lt (g := gb316) (o := .cells #[.bool false, .slice none 0 0] 27 (0, 0)) (by (with_reducible repeat (first | refine blk_drewN ?_ _ | refine blk_drew ?_ | refine blk_alloc ?_ _)); exact BK316.out)) : gb316 ≠ gb317))
            have n14_ := Aside0.mk ((by rw [hg]; exact Nat.ne_of_gt (blk_lt (g := gb316) (o := .cells #[.bool false, .slice none 0 0] 27 (0, 0)) (by (with_reducible repeat (first | refine blk_drewN ?_ _ | refine blk_drew ?_ | refine blk_alloc ?_ _)); exact BK316.out)) : gb317 ≠ gb316))
            clear HO_298001 HO307 BK292 BK297 BK316 HB
            have HO_298001 := n0_
            have HO307 := n1_
            have BK292 := n2_
            have BK297 := n3_
            have BK316 := n4_
            have HB := n5_
            have BK317 := n6_
            have GW317 := n7_
            have GE317 := n8_
            have NB292_317 := n9_
            have NB317_292 := n10_
            have NB297_317 := n11_
            have NB317_297 := n12_
            have NB316_317 := n13_
            have NB317_316 := n14_
            clear n0_ n1_ n2_ n3_ n4_ n5_ n6_ n7_ n8_ n9_ n10_ n11_ n12_ n13_ n14_ hb hbox hg
            refine hK.out _ _ ⟨(blk_cell BK292.out 0).trans rfl, (blk_cell BK292.out 1).trans rfl⟩ (fun hHeld => ?_)
            clear hK K
            refine norm_ (a' := ?_) ?_ ?_
            rotate_left
            ·show Act.put _ (some 9) _ = _
             simp only [Act.put, List.setIfInBounds_toArray, List.set_cons_zero, List.set_cons_succ, i64_w, i32_w]
             rfl
            exact norm_ (by first | (simp only [putAll, Act.put, List.setIfInBounds_toArray, List.set_cons_zero, List.set_cons_succ]; done) | (simp only [putAll, Act.put, List.setIfInBounds_toArray, List.set_cons_zero, List.set_cons_succ]; rfl)) (hJ3_8_9 ((.slice Ao37 t305.length co37), gb316, gb317) _ ⟨hHeld, (by (with_reducible repeat (first | apply Kd.V_alloc | apply Kd.V_drewN | apply Kd.V_drew)); exact Kd.V_mono HO307.out (fun _ hk => ⟨hk.1.1, ⟨hk.1.2.1, ⟨hk.1.2.2, hk.2⟩⟩⟩)), (by (with_reducible repeat (first | apply Kd.V_alloc | apply Kd.V_drewN | apply Kd.V_drew)); exact Kd.V_mono HO_298001.out (fun _ hk => ⟨hk.1.1, ⟨hk.1.2.1, ⟨hk.1.2.2, hk.2⟩⟩⟩)), (by (with_reducible repeat (first | refine blk_drewN ?_ _ | refine blk_drew ?_ | refine blk_alloc ?_ _)); exact BK292.out), (by (with_reducible repeat (first | refine blk_drewN ?_ _ | refine blk_drew ?_ | refine blk_alloc ?_ _)); exact BK297.out), (by (with_reducible repeat (first | refine blk_drewN ?_ _ | refine blk_drew ?_ | refine blk_alloc ?_ _)); exact BK316.out), (by (with_reducible repeat (first | refine blk_drewN ?_ _ | refine blk_drew ?_ | refine blk_alloc ?_ _)); exact BK317.out), GW316.out, GE316.out, NB292_316.out, NB316_292.out, NB297_316.out, NB316_297.out, NB317_316.out, NB316_317.out, GW317.out, GE317.out, NB292_317.out, NB317_292.out, NB297_317.out, NB317_297.out, (by repeat (first | (with_reducible first | exact HB.out | apply below_alloc | apply pw_below_drewN | apply below_drew1 | refine below_set ?_ GE292.out | refine below_set ?_ GE297.out | refine below_set ?_ GE316.out | refine below_set ?_ GE317.out) | exact HB.out))⟩)
         ·skip
          rintro ⟨v306, v310, v314⟩ w37 ⟨hS_, h0_, h1_, h2_, h3_, h4_, h5_, h6_⟩
          have n0_ : Aside0 (Kd.V (Kd.int .u32) 44 w37 w.heap.size (fun k_ => k_ ≠ gb292 ∧ k_ ≠ gb297) v306 t305) := ⟨h0_⟩
          have n1_ : Aside0 (Kd.V (Kd.int .u32) 44 w37 w.heap.size (fun k_ => k_ ≠ gb292 ∧ k_ ≠ gb297) v310 t309) := ⟨h1_⟩
          have n2_ : Aside0 (Kd.V (Kd.int .u32) 44 w37 w.heap.size (fun k_ => k_ ≠ gb292 ∧ k_ ≠ gb297) v314 t313) := ⟨h2_⟩
          have n3_ : Aside0 (Kd.V (Kd.int .u32) 44 w37 w.heap.size (fun k_ => k_ ≠ gb292 ∧ k_ ≠ gb297) (.slice Ao10 t294.length co10) t294) := ⟨h3_⟩
          have n4_ : Aside0 (w37.heap[gb292]? = some (.cells #[.bool true, .slice A0_1 l0_1.length c0_1] 27 (0, 0))) := ⟨h4_⟩
          have n5_ : Aside0 (w37.heap[gb297]? = some (.cells #[.bool t293, .slice Ao10 t294.length co10] 27 (0, 0))) := ⟨h5_⟩
          have n6_ : Aside0 (Below w.heap.size w w37) := ⟨h6_⟩
          clear HO_298001 BK292 BK297 HB h0_ h1_ h2_ h3_ h4_ h5_ h6_
          have HO307 := n0_
          have HO311 := n1_
          have HO315 := n2_
          have HO_298001 := n3_
          have BK292 := n4_
          have BK297 := n5_
          have HB := n6_
          clear n0_ n1_ n2_ n3_ n4_ n5_ n6_
          have hHeld : w37.cell? ⟨gb292, 0, none⟩ = some (.bool true) ∧ w37.cell? ⟨gb292, 1, none⟩ = some (.slice A0_1 l0_1.length c0_1) := hS_
          refine norm_ (a' := ?_) ?_ ?_
          rotate_left
          ·simp only [putAll, Act.put, List.setIfInBounds_toArray, List.set_cons_zero, List.set_cons_succ]
           rfl
          refine two_ (i := 8) (j := 9) (Ni := some 8) (Nj := some 9) #[true, true, true, true, true, true, true, true, true, false, false, false] #[true, true, true, true, true, true, true, true, false, true, false, false] rfl rfl rfl rfl (two_of HT_.out (by kernel_rfl)) (by decide) (by decide) (fun K hK => ?_) (fun K hK => ?_)
          ·skip
           refine box_step ?hg (N := 8) ?hd (cs := #[.bool false, .slice none 0 0]) (t := 27) ?hr ?_; (case hd => rfl); (case hg => rfl); (case hr => first | (go_simp; done) | (go_simp; rfl))
           intro gb316 hg w38 hbox hb
           have n0_ := Aside0.mk (Kd.V_below (Kd.V_elderB (by (with_reducible repeat (first | apply Kd.V_alloc | apply Kd.V_drewN | apply Kd.V_drew)); exact HO_298001.out) gb316 (Nat.le_of_eq hg.symm)) hb)
           have n1_ := Aside0.mk (Kd.V_below (Kd.V_elderB (by (with_reducible repeat (first | apply Kd.V_alloc | apply Kd.V_drewN | apply Kd.V_drew)); exact HO307.out) gb316 (Nat.le_of_eq hg.symm)) hb)
           have n2_ := Aside0.mk (Kd.V_below (Kd.V_elderB (by (with_reducible repeat (first | apply Kd.V_alloc | apply Kd.V_drewN | apply Kd.V_drew)); exact HO311.out) gb316 (Nat.le_of_eq hg.symm)) hb)
           have n3_ := Aside0.mk (Kd.V_below (Kd.V_elderB (by (with_reducible repeat (first | apply Kd.V_alloc | apply Kd.V_drewN | apply Kd.V_drew)); exact HO315.out) gb316 (Nat.le_of_eq hg.symm)) hb)
           have n4_ := Aside0.mk (blk_below (g := gb292) (o := .cells #[.bool true, .slice A0_1 l0_1.length c0_1] 27 (0, 0)) (by (with_reducible repeat (first | refine blk_drewN ?_ _ | refine blk_drew ?_ | refine blk_alloc ?_ _)); exact BK292.out) hb)
           have n5_ := Aside0.mk (blk_below (g := gb297) (o := .cells #[.bool t293, .slice Ao10 t294.length co10] 27 (0, 0)) (by (with_reducible repeat (first | refine blk_drewN ?_ _ | refine blk_drew ?_ | refine blk_alloc ?_ _)); exact BK297.out) hb)
           have n6_ := Aside0.mk (below_step (by repeat (first | (with_reducible first | exact HB.out | apply below_alloc | apply pw_below_drewN | apply below_drew1 | refine below_set ?_ GE292.out | refine below_set ?_ GE297.out) | exact HB.out)) hb)
           have n7_ := Aside0.mk (hbox)
           have n8_ := Aside0.mk ((by rw [hg]; exact (below_size (by repeat (first | (with_reducible first | exact HB.out | apply below_alloc | apply pw_below_drewN | apply below_drew1 | refine below_set ?_ GE292.out | refine below_set ?_ GE297.out) | exact HB.out))) : w.heap.size ≤ gb316))
           have n9_ := Aside0.mk ((by rw [hg]; exact (below_size (by repeat (first | (with_reducible first | exact HB.out | apply below_alloc | apply pw_below_drewN | apply below_drew1 | refine below_set ?_ GE292.out | refine below_set ?_ GE297.out) | exact HB.out))) : w.heap.size ≤ gb316))
           have n10_ := Aside0.mk ((by rw [hg]; exact Nat.ne_of_lt (blk_lt (g := gb292) (o := .cells #[.bool true, .slice A0_1 l0_1.length c0_1] 27 (0, 0)) (by (with_reducible repeat (first | refine blk_drewN ?_ _ | refine blk_drew ?_ | refine blk_alloc ?_ _)); exact BK292.out)) : gb292 ≠ gb316))
           have n11_ := Aside0.mk ((by rw [hg]; exact Nat.ne_of_gt (blk_lt (g := gb292) (o := .cells #[.bool true, .slice A0_1 l0_1.length c0_1] 27 (0, 0)) (by (with_reducible repeat (first | refine blk_drewN ?_ _ | refine blk_drew ?_ | refine blk_alloc ?_ _)); exact BK292.out)) : gb316 ≠ gb292))
           have n12_ := Aside0.mk ((by rw [hg]; exact Nat.ne_of_lt (blk_lt (g := gb297) (o := .cells #[.bool t293, .slice Ao10 t294.length co10] 27 (0, 0)) (by (with_reducible repeat (first | refine blk_drewN ?_ _ | refine blk_drew ?_ | refine blk_alloc ?_ _)); exact BK297.out)) : gb297 ≠ gb316))
           have n13_ := Aside0.mk ((by rw [hg]; exact Nat.ne_of_gt (blk_lt (g := gb297) (o := .cells #[.bool t293, .slice Ao10 t294.length co10] 27 (0, 0)) (by (with_reducible repeat (first | refine blk_drewN ?_ _ | refine blk_drew ?_ | refine blk_alloc ?_ _)); exact BK297.out)) : gb316 ≠ gb297))
           clear HO_298001 HO307 HO311 HO315 BK292 BK297 HB
           have HO_298001 := n0_
           have HO307 := n1_
           have HO311 := n2_
           have HO315 := n3_
           have BK292 := n4_
           have BK297 := n5_
           have HB := n6_
           have BK316 := n7_
           have GW316 := n8_
           have GE316 := n9_
           have NB292_316 := n10_
           have NB316_292 := n11_
           have NB297_316 := n12_
           have NB316_297 := n13_
           clear n0_ n1_ n2_ n3_ n4_ n5_ n6_ n7_ n8_ n9_ n10_ n11_ n12_ n13_ hb hbox hg
           refine hK.out _ _ ⟨(blk_cell BK292.out 0).trans rfl, (blk_cell BK292.out 1).trans rfl⟩ (fun hHeld => ?_)
           clear hK K
           refine norm_ (a' := ?_) ?_ ?_
           rotate_left
           ·show Act.put _ (some 8) _ = _
            simp only [Act.put, List.setIfInBounds_toArray, List.set_cons_zero, List.set_cons_succ, i64_w, i32_w]
            rfl
           exact norm_ (by first | (simp only [putAll, Act.put, List.setIfInBounds_toArray, List.set_cons_zero, List.set_cons_succ]; done) | (simp only [putAll, Act.put, List.setIfInBounds_toArray, List.set_cons_zero, List.set_cons_succ]; rfl)) (hJ3_4_8 (v306, v310, v314, gb316) _ ⟨hHeld, (by (with_reducible repeat (first | apply Kd.V_alloc | apply Kd.V_drewN | apply Kd.V_drew)); exact Kd.V_mono HO307.out (fun _ hk => ⟨hk.1.1, ⟨hk.1.2, hk.2⟩⟩)), (by (with_reducible repeat (first | apply Kd.V_alloc | apply Kd.V_drewN | apply Kd.V_drew)); exact Kd.V_mono HO311.out (fun _ hk => ⟨hk.1.1, ⟨hk.1.2, hk.2⟩⟩)), (by (with_reducible repeat (first | apply Kd.V_alloc | apply Kd.V_drewN | apply Kd.V_drew)); exact Kd.V_mono HO315.out (fun _ hk => ⟨hk.1.1, ⟨hk.1.2, hk.2⟩⟩)), (by (with_reducible repeat (first | apply Kd.V_alloc | apply Kd.V_drewN | apply Kd.V_drew)); exact Kd.V_mono HO_298001.out (fun _ hk => ⟨hk.1.1, ⟨hk.1.2, hk.2⟩⟩)), (by (with_reducible repeat (first | refine blk_drewN ?_ _ | refine blk_drew ?_ | refine blk_alloc ?_ _)); exact BK292.out), (by (with_reducible repeat (first | refine blk_drewN ?_ _ | refine blk_drew ?_ | refine blk_alloc ?_ _)); exact BK297.out), (by (with_reducible repeat (first | refine blk_drewN ?_ _ | refine blk_drew ?_ | refine blk_alloc ?_ _)); exact BK316.out), GW316.out, GE316.out, NB292_316.out, NB316_292.out, NB297_316.out, NB316_297.out, (by repeat (first | (with_reducible first | exact HB.out | apply below_alloc | apply pw_below_drewN | apply below_drew1 | refine below_set ?_ GE292.out | refine below_set ?_ GE297.out | refine below_set ?_ GE316.out) | exact HB.out))⟩)
          ·skip
           refine box_step ?hg (N := 9) ?hd (cs := #[.bool false, .slice none 0 0]) (t := 27) ?hr ?_; (case hd => rfl); (case hg => rfl); (case hr => first | (go_simp; done) | (go_simp; rfl))
           intro gb317 hg w38 hbox hb
           have n0_ := Aside0.mk (Kd.V_below (Kd.V_elderB (by (with_reducible repeat (first | apply Kd.V_alloc | apply Kd.V_drewN | apply Kd.V_drew)); exact HO_298001.out) gb317 (Nat.le_of_eq hg.symm)) hb)
           have n1_ := Aside0.mk (Kd.V_below (Kd.V_elderB (by (with_reducible repeat (first | apply Kd.V_alloc | apply Kd.V_drewN | apply Kd.V_drew)); exact HO307.out) gb317 (Nat.le_of_eq hg.symm)) hb)
           have n2_ := Aside0.mk (Kd.V_below (Kd.V_elderB (by (with_reducible repeat (first | apply Kd.V_alloc | apply Kd.V_drewN | apply Kd.V_drew)); exact HO311.out) gb317 (Nat.le_of_eq hg.symm)) hb)
           have n3_ := Aside0.mk (Kd.V_below (Kd.V_elderB (by (with_reducible repeat (first | apply Kd.V_alloc | apply Kd.V_drewN | apply Kd.V_drew)); exact HO315.out) gb317 (Nat.le_of_eq hg.symm)) hb)
           have n4_ := Aside0.mk (blk_below (g := gb292) (o := .cells #[.bool true, .slice A0_1 l0_1.length c0_1] 27 (0, 0)) (by (with_reducible repeat (first | refine blk_drewN ?_ _ | refine blk_drew ?_ | refine blk_alloc ?_ _)); exact BK292.out) hb)
           have n5_ := Aside0.mk (blk_below (g := gb297) (o := .cells #[.bool t293, .slice Ao10 t294.length co10] 27 (0, 0)) (by (with_reducible repeat (first | refine blk_drewN ?_ _ | refine blk_drew ?_ | refine blk_alloc ?_ _)); exact BK297.out) hb)
           have n6_ := Aside0.mk (below_step (by repeat (first | (with_reducible first | exact HB.out | apply below_alloc | apply pw_below_drewN | apply below_drew1 | refine below_set ?_ GE292.out | refine below_set ?_ GE297.out) | exact HB.out)) hb)
           have n7_ := Aside0.mk (hbox)
           have n8_ := Aside0.mk ((by rw [hg]; exact (below_size (by repeat (first | (with_reducible first | exact HB.out | apply below_alloc | apply pw_below_drewN | apply below_drew1 | refine below_set ?_ GE292.out | refine below_set ?_ GE297.out) | exact HB.out))) : w.heap.size ≤ gb317))
           have n9_ := Aside0.mk ((by rw [hg]; exact (below_size (by repeat (first | (with_reducible first | exact HB.out | apply below_alloc | apply pw_below_drewN | apply below_drew1 | refine below_set ?_ GE292.out | refine below_set ?_ GE297.out) | exact HB.out))) : w.heap.size ≤ gb317))
           have n10_ := Aside0.mk ((by rw [hg]; exact Nat.ne_of_lt (blk_lt (g := gb292) (o := .cells #[.bool true, .slice A0_1 l0_1.length c0_1] 27 (0, 0)) (by (with_reducible repeat (first | refine blk_drewN ?_ _ | refine blk_drew ?_ | refine blk_alloc ?_ _)); exact BK292.out)) : gb292 ≠ gb317))
           have n11_ := Aside0.mk ((by rw [hg]; exact Nat.ne_of_gt (blk_lt (g := gb292) (o := .cells #[.bool true, .slice A0_1 l0_1.length c0_1] 27 (0, 0)) (by (with_reducible repeat (first | refine blk_drewN ?_ _ | refine blk_drew ?_ | refine blk_alloc ?_ _)); exact BK292.out)) : gb317 ≠ gb292))
           have n12_ := Aside0.mk ((by rw [hg]; exact Nat.ne_of_lt (blk_lt (g := gb297) (o := .cells #[.bool t293, .slice Ao10 t294.length co10] 27 (0, 0)) (by (with_reducible repeat (first | refine blk_drewN ?_ _ | refine blk_drew ?_ | refine blk_alloc ?_ _)); exact BK297.out)) : gb297 ≠ gb317))
           have n13_ := Aside0.mk ((by rw [hg]; exact Nat.ne_of_gt (blk_lt (g := gb297) (o := .cells #[.bool t293, .slice Ao10 t294.length co10] 27 (0, 0)) (by (with_reducible repeat (first | refine blk_drewN ?_ _ | refine blk_drew ?_ | refine blk_alloc ?_ _)); exact BK297.out)) : gb317 ≠ gb297))
           clear HO_298001 HO307 HO311 HO315 BK292 BK297 HB
           have HO_298001 := n0_
           have HO307 := n1_
           have HO311 := n2_
           have HO315 := n3_
           have BK292 := n4_
           have BK297 := n5_
           have HB := n6_
           have BK317 := n7_
           have GW317 := n8_
           have GE317 := n9_
           have NB292_317 := n10_
           have NB317_292 := n11_
           have NB297_317 := n12_
           have NB317_297 := n13_
           clear n0_ n1_ n2_ n3_ n4_ n5_ n6_ n7_ n8_ n9_ n10_ n11_ n12_ n13_ hb hbox hg
           refine hK.out _ _ ⟨(blk_cell BK292.out 0).trans rfl, (blk_cell BK292.out 1).trans rfl⟩ (fun hHeld => ?_)
           clear hK K
           refine norm_ (a' := ?_) ?_ ?_
           rotate_left
           ·show Act.put _ (some 9) _ = _
            simp only [Act.put, List.setIfInBounds_toArray, List.set_cons_zero, List.set_cons_succ, i64_w, i32_w]
            rfl
           exact norm_ (by first | (simp only [putAll, Act.put, List.setIfInBounds_toArray, List.set_cons_zero, List.set_cons_succ]; done) | (simp only [putAll, Act.put, List.setIfInBounds_toArray, List.set_cons_zero, List.set_cons_succ]; rfl)) (hJ3_4_9 (v306, v310, v314, gb317) _ ⟨hHeld, (by (with_reducible repeat (first | apply Kd.V_alloc | apply Kd.V_drewN | apply Kd.V_drew)); exact Kd.V_mono HO307.out (fun _ hk => ⟨hk.1.1, ⟨hk.1.2, hk.2⟩⟩)), (by (with_reducible repeat (first | apply Kd.V_alloc | apply Kd.V_drewN | apply Kd.V_drew)); exact Kd.V_mono HO311.out (fun _ hk => ⟨hk.1.1, ⟨hk.1.2, hk.2⟩⟩)), (by (with_reducible repeat (first | apply Kd.V_alloc | apply Kd.V_drewN | apply Kd.V_drew)); exact Kd.V_mono HO315.out (fun _ hk => ⟨hk.1.1, ⟨hk.1.2, hk.2⟩⟩)), (by (with_reducible repeat (first | apply Kd.V_alloc | apply Kd.V_drewN | apply Kd.V_drew)); exact Kd.V_mono HO_298001.out (fun _ hk => ⟨hk.1.1, ⟨hk.1.2, hk.2⟩⟩)), (by (with_reducible repeat (first | refine blk_drewN ?_ _ | refine blk_drew ?_ | refine blk_alloc ?_ _)); exact BK292.out), (by (with_reducible repeat (first | refine blk_drewN ?_ _ | refine blk_drew ?_ | refine blk_alloc ?_ _)); exact BK297.out), (by (with_reducible repeat (first | refine blk_drewN ?_ _ | refine blk_drew ?_ | refine blk_alloc ?_ _)); exact BK317.out), GW317.out, GE317.out, NB292_317.out, NB317_292.out, NB297_317.out, NB317_297.out, (by repeat (first | (with_reducible first | exact HB.out | apply below_alloc | apply pw_below_drewN | apply below_drew1 | refine below_set ?_ GE292.out | refine below_set ?_ GE297.out | refine below_set ?_ GE317.out) | exact HB.out))⟩)
        ·skip
         rintro ⟨v306, gb316, gb317⟩ w37 ⟨hS_, h0_, h1_, h2_, h3_, h4_, h5_, h6_, h7_, h8_, h9_, h10_, h11_, h12_, h13_, h14_, h15_, h16_, h17_, h18_, h19_, h20_⟩
         have n0_ : Aside0 (Kd.V (Kd.int .u32) 44 w37 w.heap.size (fun k_ => k_ ≠ gb292 ∧ k_ ≠ gb297 ∧ k_ ≠ gb316 ∧ k_ ≠ gb317) v306 t305) := ⟨h0_⟩
         have n1_ : Aside0 (Kd.V (Kd.int .u32) 44 w37 w.heap.size (fun k_ => k_ ≠ gb292 ∧ k_ ≠ gb297 ∧ k_ ≠ gb316 ∧ k_ ≠ gb317) (.slice Ao10 t294.length co10) t294) := ⟨h1_⟩
         have n2_ : Aside0 (w37.heap[gb292]? = some (.cells #[.bool true, .slice A0_1 l0_1.length c0_1] 27 (0, 0))) := ⟨h2_⟩
         have n3_ : Aside0 (w37.heap[gb297]? = some (.cells #[.bool t293, .slice Ao10 t294.length co10] 27 (0, 0))) := ⟨h3_⟩
         have n4_ : Aside0 (w37.heap[gb316]? = some (.cells #[.bool false, .slice none 0 0] 27 (0, 0))) := ⟨h4_⟩
         have n5_ : Aside0 (w37.heap[gb317]? = some (.cells #[.bool false, .slice none 0 0] 27 (0, 0))) := ⟨h5_⟩
         have n6_ : Aside0 (w.heap.size ≤ gb316) := ⟨h6_⟩
         have n7_ : Aside0 (w.heap.size ≤ gb316) := ⟨h7_⟩
         have n8_ : Aside0 (gb292 ≠ gb316) := ⟨h8_⟩
         have n9_ : Aside0 (gb316 ≠ gb292) := ⟨h9_⟩
         have n10_ : Aside0 (gb297 ≠ gb316) := ⟨h10_⟩
         have n11_ : Aside0 (gb316 ≠ gb297) := ⟨h11_⟩
         have n12_ : Aside0 (gb317 ≠ gb316) := ⟨h12_⟩
         have n13_ : Aside0 (gb316 ≠ gb317) := ⟨h13_⟩
         have n14_ : Aside0 (w.heap.size ≤ gb317) := ⟨h14_⟩
         have n15_ : Aside0 (w.heap.size ≤ gb317) := ⟨h15_⟩
         have n16_ : Aside0 (gb292 ≠ gb317) := ⟨h16_⟩
         have n17_ : Aside0 (gb317 ≠ gb292) := ⟨h17_⟩
         have n18_ : Aside0 (gb297 ≠ gb317) := ⟨h18_⟩
         have n19_ : Aside0 (gb317 ≠ gb297) := ⟨h19_⟩
         have n20_ : Aside0 (Below w.heap.size w w37) := ⟨h20_⟩
         clear HO_298001 BK292 BK297 HB h0_ h1_ h2_ h3_ h4_ h5_ h6_ h7_ h8_ h9_ h10_ h11_ h12_ h13_ h14_ h15_ h16_ h17_ h18_ h19_ h20_
         have HO307 := n0_
         have HO_298001 := n1_
         have BK292 := n2_
         have BK297 := n3_
         have BK316 := n4_
         have BK317 := n5_
         have GW316 := n6_
         have GE316 := n7_
         have NB292_316 := n8_
         have NB316_292 := n9_
         have NB297_316 := n10_
         have NB316_297 := n11_
         have NB317_316 := n12_
         have NB316_317 := n13_
         have GW317 := n14_
         have GE317 := n15_
         have NB292_317 := n16_
         have NB317_292 := n17_
         have NB297_317 := n18_
         have NB317_297 := n19_
         have HB := n20_
         clear n0_ n1_ n2_ n3_ n4_ n5_ n6_ n7_ n8_ n9_ n10_ n11_ n12_ n13_ n14_ n15_ n16_ n17_ n18_ n19_ n20_
         have hHeld : w37.cell? ⟨gb292, 0, none⟩ = some (.bool true) ∧ w37.cell? ⟨gb292, 1, none⟩ = some (.slice A0_1 l0_1.length c0_1) := hS_
         obtain ⟨Ao38, co38, eo38⟩ := Kd.V_slice HO307.out
         (first | subst eo38 | (injection eo38 with f1_ f2_ f3_; have f4_ := f1_.symm; have f5_ := f3_.symm; clear f1_ f2_ f3_; subst f4_; subst f5_))
         refine norm_ (a' := ?_) ?_ ?_
         rotate_left
         ·simp only [putAll, Act.put, List.setIfInBounds_toArray, List.set_cons_zero, List.set_cons_succ]
          rfl
         refine one_ (i := 4) (N := some 35) #[true, true, true, true, true, false, false, false, true, true, false, false] rfl rfl (one_of HT_.out (by kernel_rfl)) (by decide) (fun K hK => ?_)
         refine goes_ Try.func39 (by kernel_rfl) rfl #[.agg #[.bool true, .slice A0_1 l0_1.length c0_1], .agg #[.bool t304, .slice Ao38 t305.length co38]] (by rfl) rfl rfl (by (try simp only [List.map_toArray, List.map_cons, List.map_nil]); first | done | rfl | (simp only [List.length_drop, List.length_take]; rfl)) ?_
         with_reducible refine (spec_WideDiv.calls kj3 true _ _ l0_1 t304 _ _ t305 t308 t309 t312 t313 _ ?side1 ?side2 ?side3 ?side4 A26.out).mono ?_
         (case side1 => repeat (first | exact (Kd.C_below HR0_1.out HB.out) | (with_reducible refine Kd.C_alloc ?_ _) | (with_reducible refine Kd.C_drewN ?_ _) | (with_reducible refine Kd.C_drew ?_)))
         (case side2 => exact HC0_1.out)
         (case side3 => repeat (first | exact (Kd.V_reads' HO307.out).2.2 | (with_reducible refine Kd.C_alloc ?_ _) | (with_reducible refine Kd.C_drewN ?_ _) | (with_reducible refine Kd.C_drew ?_)))
         (case side4 => exact (Kd.V_reads' HO307.out).2.1)
         rintro e w39 ⟨v310, v314, rfl, ho0, ho1, hb⟩
         refine ⟨_, rfl, ?_⟩
         have n0_ := Aside0.mk (Kd.V_below (by (with_reducible repeat (first | apply Kd.V_alloc | apply Kd.V_drewN | apply Kd.V_drew)); exact HO_298001.out) hb)
         have n1_ := Aside0.mk (Kd.V_below (by (with_reducible repeat (first | apply Kd.V_alloc | apply Kd.V_drewN | apply Kd.V_drew)); exact HO307.out) hb)
         have n2_ := Aside0.mk (Kd.V_lower (Kd.V_mono (ok' := fun k_ => k_ ≠ gb292 ∧ k_ ≠ gb297 ∧ k_ ≠ gb316 ∧ k_ ≠ gb317) ho0 (fun k_ hk_ => ⟨(Kd.freshB (g := gb292) (o := .cells #[.bool true, .slice A0_1 l0_1.length c0_1] 27 (0, 0)) (by (with_reducible repeat (first | refine blk_drewN ?_ _ | refine blk_drew ?_ | refine blk_alloc ?_ _)); exact BK292.out) k_ hk_), (Kd.freshB (g := gb297) (o := .cells #[.bool t293, .slice Ao10 t294.length co10] 27 (0, 0)) (by (with_reducible repeat (first | refine blk_drewN ?_ _ | refine blk_drew ?_ | refine blk_alloc ?_ _)); exact BK297.out) k_ hk_), (Kd.freshB (g := gb316) (o := .cells #[.bool false, .slice none 0 0] 27 (0, 0)) (by (with_reducible repeat (first | refine blk_drewN ?_ _ | refine blk_drew ?_ | refine blk_alloc ?_ _)); exact BK316.out) k_ hk_), (Kd.freshB (g := gb317) (o := .cells #[.bool false, .slice none 0 0] 27 (0, 0)) (by (with_reducible repeat (first | refine blk_drewN ?_ _ | refine blk_drew ?_ | refine blk_alloc ?_ _)); exact BK317.out) k_ hk_)⟩)) (below_size (by repeat (first | (with_reducible first | exact HB.out | apply below_alloc | apply pw_below_drewN | apply below_drew1 | refine below_set ?_ GE292.out | refine below_set ?_ GE297.out | refine below_set ?_ GE316.out | refine below_set ?_ GE317.out) | exact HB.out))))
         have n3_ := Aside0.mk (Kd.V_lower (Kd.V_mono (ok' := fun k_ => k_ ≠ gb292 ∧ k_ ≠ gb297 ∧ k_ ≠ gb316 ∧ k_ ≠ gb317) ho1 (fun k_ hk_ => ⟨(Kd.freshB (g := gb292) (o := .cells #[.bool true, .slice A0_1 l0_1.length c0_1] 27 (0, 0)) (by (with_reducible repeat (first | refine blk_drewN ?_ _ | refine blk_drew ?_ | refine blk_alloc ?_ _)); exact BK292.out) k_ hk_), (Kd.freshB (g := gb297) (o := .cells #[.bool t293, .slice Ao10 t294.length co10] 27 (0, 0)) (by (with_reducible repeat (first | refine blk_drewN ?_ _ | refine blk_drew ?_ | refine blk_alloc ?_ _)); exact BK297.out) k_ hk_), (Kd.freshB (g := gb316) (o := .cells #[.bool false, .slice none 0 0] 27 (0, 0)) (by (with_reducible repeat (first | refine blk_drewN ?_ _ | refine blk_drew ?_ | refine blk_alloc ?_ _)); exact BK316.out) k_ hk_), (Kd.freshB (g := gb317) (o := .cells #[.bool false, .slice none 0 0] 27 (0, 0)) (by (with_reducible repeat (first | refine blk_drewN ?_ _ | refine blk_drew ?_ | refine blk_alloc ?_ _)); exact BK317.out) k_ hk_)⟩)) (below_size (by repeat (first | (with_reducible first | exact HB.out | apply below_alloc | apply pw_below_drewN | apply below_drew1 | refine below_set ?_ GE292.out | refine below_set ?_ GE297.out | refine below_set ?_ GE316.out | refine below_set ?_ GE317.out) | exact HB.out))))
         have n4_ := Aside0.mk (blk_below (g := gb292) (o := .cells #[.bool true, .slice A0_1 l0_1.length c0_1] 27 (0, 0)) (by (with_reducible repeat (first | refine blk_drewN ?_ _ | refine blk_drew ?_ | refine blk_alloc ?_ _)); exact BK292.out) hb)
         have n5_ := Aside0.mk (blk_below (g := gb297) (o := .cells #[.bool t293, .slice Ao10 t294.length co10] 27 (0, 0)) (by (with_reducible repeat (first | refine blk_drewN ?_ _ | refine blk_drew ?_ | refine blk_alloc ?_ _)); exact BK297.out) hb)
         have n6_ := Aside0.mk (blk_below (g := gb316) (o := .cells #[.bool false, .slice none 0 0] 27 (0, 0)) (by (with_reducible repeat (first | refine blk_drewN ?_ _ | refine blk_drew ?_ | refine blk_alloc ?_ _)); exact BK316.out) hb)
         have n7_ := Aside0.mk (blk_below (g := gb317) (o := .cells #[.bool false, .slice none 0 0] 27 (0, 0)) (by (with_reducible repeat (first | refine blk_drewN ?_ _ | refine blk_drew ?_ | refine blk_alloc ?_ _)); exact BK317.out) hb)
         have n8_ := Aside0.mk (below_step (by repeat (first | (with_reducible first | exact HB.out | apply below_alloc | apply pw_below_drewN | apply below_drew1 | refine below_set ?_ GE292.out | refine below_set ?_ GE297.out | refine below_set ?_ GE316.out | refine below_set ?_ GE317.out) | exact HB.out)) hb)
         clear HO_298001 HO307 BK292 BK297 BK316 BK317 HB
         have HO_298001 := n0_
         have HO307 := n1_
         have HO311 := n2_
         have HO315 := n3_
         have BK292 := n4_
         have BK297 := n5_
         have BK316 := n6_
         have BK317 := n7_
         have HB := n8_
         clear n0_ n1_ n2_ n3_ n4_ n5_ n6_ n7_ n8_
         (try clear hb)
         (try clear hb2)
         (try clear hk)
         (try clear hi)
         (try clear ho0)
         (try clear ho1)
         refine hK.out _ _ ⟨(blk_cell BK292.out 0).trans rfl, (blk_cell BK292.out 1).trans rfl⟩ (fun hHeld => ?_)
         clear hK K
         refine norm_ (a' := ?_) ?_ ?_
         rotate_left
         ·show Act.put _ (some 35) _ = _
          simp only [Act.put, List.setIfInBounds_toArray, List.set_cons_zero, List.set_cons_succ, i64_w, i32_w]
          rfl
         refine pure_ (i := 5) (N := some 30) (v := ?_) (a' := ?_) #[true, true, true, true, true, true, false, false, true, true, false, false] rfl rfl (any_of HT_.out (by kernel_rfl)) (fun _ _ _ h => h) (Or.inl ⟨by rfl, ?_⟩) ?_ ?_
         rotate_left
         ·intro w'
          go_simp
          with_reducible rfl
         rotate_left
         ·simp only [Act.put, List.setIfInBounds_toArray, List.set_cons_zero, List.set_cons_succ, i64_w, i32_w]
          rfl
         refine pure_ (i := 6) (N := some 36) (v := ?_) (a' := ?_) #[true, true, true, true, true, true, true, false, true, true, false, false] rfl rfl (any_of HT_.out (by kernel_rfl)) (fun _ _ _ h => h) (Or.inl ⟨by rfl, ?_⟩) ?_ ?_
         rotate_left
         ·intro w'
          go_simp
          with_reducible rfl
         rotate_left
         ·simp only [Act.put, List.setIfInBounds_toArray, List.set_cons_zero, List.set_cons_succ, i64_w, i32_w]
          rfl
         refine pure_ (i := 7) (N := some 37) (v := ?_) (a' := ?_) #[true, true, true, true, true, true, true, true, true, true, false, false] rfl rfl (any_of HT_.out (by kernel_rfl)) (fun _ _ _ h => h) (Or.inl ⟨by rfl, ?_⟩) ?_ ?_
         rotate_left
         ·intro w'
          go_simp
          with_reducible rfl
         rotate_left
         ·simp only [Act.put, List.setIfInBounds_toArray, List.set_cons_zero, List.set_cons_succ, i64_w, i32_w]
          rfl
         exact norm_ (by first | (simp only [putAll, Act.put, List.setIfInBounds_toArray, List.set_cons_zero, List.set_cons_succ]; done) | (simp only [putAll, Act.put, List.setIfInBounds_toArray, List.set_cons_zero, List.set_cons_succ]; rfl)) (hJ3_4_8_9 (.slice Ao38 t305.length co38, v310, v314, gb316, gb317) _ ⟨hHeld, (by (with_reducible repeat (first | apply Kd.V_alloc | apply Kd.V_drewN | apply Kd.V_drew)); exact HO307.out), (by (with_reducible repeat (first | apply Kd.V_alloc | apply Kd.V_drewN | apply Kd.V_drew)); exact HO311.out), (by (with_reducible repeat (first | apply Kd.V_alloc | apply Kd.V_drewN | apply Kd.V_drew)); exact HO315.out), (by (with_reducible repeat (first | apply Kd.V_alloc | apply Kd.V_drewN | apply Kd.V_drew)); exact HO_298001.out), (by (with_reducible repeat (first | refine blk_drewN ?_ _ | refine blk_drew ?_ | refine blk_alloc ?_ _)); exact BK292.out), (by (with_reducible repeat (first | refine blk_drewN ?_ _ | refine blk_drew ?_ | refine blk_alloc ?_ _)); exact BK297.out), (by (with_reducible repeat (first | refine blk_drewN ?_ _ | refine blk_drew ?_ | refine blk_alloc ?_ _)); exact BK316.out), (by (with_reducible repeat (first | refine blk_drewN ?_ _ | refine blk_drew ?_ | refine blk_alloc ?_ _)); exact BK317.out), GW316.out, GE316.out, NB292_316.out, NB316_292.out, NB297_316.out, NB316_297.out, NB317_316.out, NB316_317.out, GW317.out, GE317.out, NB292_317.out, NB317_292.out, NB297_317.out, NB317_297.out, (by repeat (first | (with_reducible first | exact HB.out | apply below_alloc | apply pw_below_drewN | apply below_drew1 | refine below_set ?_ GE292.out | refine below_set ?_ GE297.out | refine below_set ?_ GE316.out | refine below_set ?_ GE317.out) | exact HB.out))⟩)
       ·skip
        rintro ⟨v306, v310, v314, gb317⟩ w38 ⟨hS_, h0_, h1_, h2_, h3_, h4_, h5_, h6_, h7_, h8_, h9_, h10_, h11_, h12_, h13_⟩
        have n0_ : Aside0 (Kd.V (Kd.int .u32) 44 w38 w.heap.size (fun k_ => k_ ≠ gb292 ∧ k_ ≠ gb297 ∧ k_ ≠ gb317) v306 t305) := ⟨h0_⟩
        have n1_ : Aside0 (Kd.V (Kd.int .u32) 44 w38 w.heap.size (fun k_ => k_ ≠ gb292 ∧ k_ ≠ gb297 ∧ k_ ≠ gb317) v310 t309) := ⟨h1_⟩
        have n2_ : Aside0 (Kd.V (Kd.int .u32) 44 w38 w.heap.size (fun k_ => k_ ≠ gb292 ∧ k_ ≠ gb297 ∧ k_ ≠ gb317) v314 t313) := ⟨h2_⟩
        have n3_ : Aside0 (Kd.V (Kd.int .u32) 44 w38 w.heap.size (fun k_ => k_ ≠ gb292 ∧ k_ ≠ gb297 ∧ k_ ≠ gb317) (.slice Ao10 t294.length co10) t294) := ⟨h3_⟩
        have n4_ : Aside0 (w38.heap[gb292]? = some (.cells #[.bool true, .slice A0_1 l0_1.length c0_1] 27 (0, 0))) := ⟨h4_⟩
        have n5_ : Aside0 (w38.heap[gb297]? = some (.cells #[.bool t293, .slice Ao10 t294.length co10] 27 (0, 0))) := ⟨h5_⟩
        have n6_ : Aside0 (w38.heap[gb317]? = some (.cells #[.bool false, .slice none 0 0] 27 (0, 0))) := ⟨h6_⟩
        have n7_ : Aside0 (w.heap.size ≤ gb317) := ⟨h7_⟩
        have n8_ : Aside0 (w.heap.size ≤ gb317) := ⟨h8_⟩
        have n9_ : Aside0 (gb292 ≠ gb317) := ⟨h9_⟩
        have n10_ : Aside0 (gb317 ≠ gb292) := ⟨h10_⟩
        have n11_ : Aside0 (gb297 ≠ gb317) := ⟨h11_⟩
        have n12_ : Aside0 (gb317 ≠ gb297) := ⟨h12_⟩
        have n13_ : Aside0 (Below w.heap.size w w38) := ⟨h13_⟩
        clear HO_298001 BK292 BK297 HB h0_ h1_ h2_ h3_ h4_ h5_ h6_ h7_ h8_ h9_ h10_ h11_ h12_ h13_
        have HO307 := n0_
        have HO311 := n1_
        have HO315 := n2_
        have HO_298001 := n3_
        have BK292 := n4_
        have BK297 := n5_
        have BK317 := n6_
        have GW317 := n7_
        have GE317 := n8_
        have NB292_317 := n9_
        have NB317_292 := n10_
        have NB297_317 := n11_
        have NB317_297 := n12_
        have HB := n13_
        clear n0_ n1_ n2_ n3_ n4_ n5_ n6_ n7_ n8_ n9_ n10_ n11_ n12_ n13_
        have hHeld : w38.cell? ⟨gb292, 0, none⟩ = some (.bool true) ∧ w38.cell? ⟨gb292, 1, none⟩ = some (.slice A0_1 l0_1.length c0_1) := hS_
        refine norm_ (a' := ?_) ?_ ?_
        rotate_left
        ·simp only [putAll, Act.put, List.setIfInBounds_toArray, List.set_cons_zero, List.set_cons_succ]
         rfl
        refine one_ (i := 8) (N := some 8) #[true, true, true, true, true, true, true, true, true, true, false, false] rfl rfl (one_of HT_.out (by kernel_rfl)) (by decide) (fun K hK => ?_)
        refine box_step ?hg (N := 8) ?hd (cs := #[.bool false, .slice none 0 0]) (t := 27) ?hr ?_; (case hd => rfl); (case hg => rfl); (case hr => first | (go_simp; done) | (go_simp; rfl))
        intro gb316 hg w39 hbox hb
        have n0_ := Aside0.mk (Kd.V_below (Kd.V_elderB (by (with_reducible repeat (first | apply Kd.V_alloc | apply Kd.V_drewN | apply Kd.V_drew)); exact HO_298001.out) gb316 (Nat.le_of_eq hg.symm)) hb)
        have n1_ := Aside0.mk (Kd.V_below (Kd.V_elderB (by (with_reducible repeat (first | apply Kd.V_alloc | apply Kd.V_drewN | apply Kd.V_drew)); exact HO307.out) gb316 (Nat.le_of_eq hg.symm)) hb)
        have n2_ := Aside0.mk (Kd.V_below (Kd.V_elderB (by (with_reducible repeat (first | apply Kd.V_alloc | apply Kd.V_drewN | apply Kd.V_drew)); exact HO311.out) gb316 (Nat.le_of_eq hg.symm)) hb)
        have n3_ := Aside0.mk (Kd.V_below (Kd.V_elderB (by (with_reducible repeat (first | apply Kd.V_alloc | apply Kd.V_drewN | apply Kd.V_drew)); exact HO315.out) gb316 (Nat.le_of_eq hg.symm)) hb)
        have n4_ := Aside0.mk (blk_below (g := gb292) (o := .cells #[.bool true, .slice A0_1 l0_1.length c0_1] 27 (0, 0)) (by (with_reducible repeat (first | refine blk_drewN ?_ _ | refine blk_drew ?_ | refine blk_alloc ?_ _)); exact BK292.out) hb)
        have n5_ := Aside0.mk (blk_below (g := gb297) (o := .cells #[.bool t293, .slice Ao10 t294.length co10] 27 (0, 0)) (by (with_reducible repeat (first | refine blk_drewN ?_ _ | refine blk_drew ?_ | refine blk_alloc ?_ _)); exact BK297.out) hb)
        have n6_ := Aside0.mk (blk_below (g := gb317) (o := .cells #[.bool false, .slice none 0 0] 27 (0, 0)) (by (with_reducible repeat (first | refine blk_drewN ?_ _ | refine blk_drew ?_ | refine blk_alloc ?_ _)); exact BK317.out) hb)
        have n7_ := Aside0.mk (below_step (by repeat (first | (with_reducible first | exact HB.out | apply below_alloc | apply pw_below_drewN | apply below_drew1 | refine below_set ?_ GE292.out | refine below_set ?_ GE297.out | refine below_set ?_ GE317.out) | exact HB.out)) hb)
        have n8_ := Aside0.mk (hbox)
        have n9_ := Aside0.mk ((by rw [hg]; exact (below_size (by repeat (first | (with_reducible first | exact HB.out | apply below_alloc | apply pw_below_drewN | apply below_drew1 | refine below_set ?_ GE292.out | refine below_set ?_ GE297.out | refine below_set ?_ GE317.out) | exact HB.out))) : w.heap.size ≤ gb316))
        have n10_ := Aside0.mk ((by rw [hg]; exact (below_size (by repeat (first | (with_reducible first | exact HB.out | apply below_alloc | apply pw_below_drewN | apply below_drew1 | refine below_set ?_ GE292.out | refine below_set ?_ GE297.out | refine below_set ?_ GE317.out) | exact HB.out))) : w.heap.size ≤ gb316))
        have n11_ := Aside0.mk ((by rw [hg]; exact Nat.ne_of_lt (blk_lt (g := gb292) (o := .cells #[.bool true, .slice A0_1 l0_1.length c0_1] 27 (0, 0)) (by (with_reducible repeat (first | refine blk_drewN ?_ _ | refine blk_drew ?_ | refine blk_alloc ?_ _)); exact BK292.out)) : gb292 ≠ gb316))
        have n12_ := Aside0.mk ((by rw [hg]; exact Nat.ne_of_gt (blk_lt (g := gb292) (o := .cells #[.bool true, .slice A0_1 l0_1.length c0_1] 27 (0, 0)) (by (with_reducible repeat (first | refine blk_drewN ?_ _ | refine blk_drew ?_ | refine blk_alloc ?_ _)); exact BK292.out)) : gb316 ≠ gb292))
        have n13_ := Aside0.mk ((by rw [hg]; exact Nat.ne_of_lt (blk_lt (g := gb297) (o := .cells #[.bool t293, .slice Ao10 t294.length co10] 27 (0, 0)) (by (with_reducible repeat (first | refine blk_drewN ?_ _ | refine blk_drew ?_ | refine blk_alloc ?_ _)); exact BK297.out)) : gb297 ≠ gb316))
        have n14_ := Aside0.mk ((by rw [hg]; exact Nat.ne_of_gt (blk_lt (g := gb297) (o := .cells #[.bool t293, .slice Ao10 t294.length co10] 27 (0, 0)) (by (with_reducible repeat (first | refine blk_drewN ?_ _ | refine blk_drew ?_ | refine blk_alloc ?_ _)); exact BK297.out)) : gb316 ≠ gb297))
        have n15_ := Aside0.mk ((by rw [hg]; exact Nat.ne_of_lt (blk_lt (g := gb317) (o := .cells #[.bool false, .slice none 0 0] 27 (0, 0)) (by (with_reducible repeat (first | refine blk_drewN ?_ _ | refine blk_drew ?_ | refine blk_alloc ?_ _)); exact BK317.out)) : gb317 ≠ gb316))
        have n16_ := Aside0.mk ((by rw [hg]; exact Nat.ne_of_gt (blk_lt (g := gb317) (o := .cells #[.bool false, .slice none 0 0] 27 (0, 0)) (by (with_reducible repeat (first | refine blk_drewN ?_ _ | refine blk_drew ?_ | refine blk_alloc ?_ _)); exact BK317.out)) : gb316 ≠ gb317))
        clear HO_298001 HO307 HO311 HO315 BK292 BK297 BK317 HB
        have HO_298001 := n0_
        have HO307 := n1_
        have HO311 := n2_
        have HO315 := n3_
        have BK292 := n4_
        have BK297 := n5_
        have BK317 := n6_
        have HB := n7_
        have BK316 := n8_
        have GW316 := n9_
        have GE316 := n10_
        have NB292_316 := n11_
        have NB316_292 := n12_
        have NB297_316 := n13_
        have NB316_297 := n14_
        have NB317_316 := n15_
        have NB316_317 := n16_
        clear n0_ n1_ n2_ n3_ n4_ n5_ n6_ n7_ n8_ n9_ n10_ n11_ n12_ n13_ n14_ n15_ n16_ hb hbox hg
        refine hK.out _ _ ⟨(blk_cell BK292.out 0).trans rfl, (blk_cell BK292.out 1).trans rfl⟩ (fun hHeld => ?_)
        clear hK K
        refine norm_ (a' := ?_) ?_ ?_
        rotate_left
        ·show Act.put _ (some 8) _ = _
         simp only [Act.put, List.setIfInBounds_toArray, List.set_cons_zero, List.set_cons_succ, i64_w, i32_w]
         rfl
        exact norm_ (by first | (simp only [putAll, Act.put, List.setIfInBounds_toArray, List.set_cons_zero, List.set_cons_succ]; done) | (simp only [putAll, Act.put, List.setIfInBounds_toArray, List.set_cons_zero, List.set_cons_succ]; rfl)) (hJ3_4_8_9 (v306, v310, v314, gb316, gb317) _ ⟨hHeld, (by (with_reducible repeat (first | apply Kd.V_alloc | apply Kd.V_drewN | apply Kd.V_drew)); exact Kd.V_mono HO307.out (fun _ hk => ⟨hk.1.1, ⟨hk.1.2.1, ⟨hk.2, hk.1.2.2⟩⟩⟩)), (by (with_reducible repeat (first | apply Kd.V_alloc | apply Kd.V_drewN | apply Kd.V_drew)); exact Kd.V_mono HO311.out (fun _ hk => ⟨hk.1.1, ⟨hk.1.2.1, ⟨hk.2, hk.1.2.2⟩⟩⟩)), (by (with_reducible repeat (first | apply Kd.V_alloc | apply Kd.V_drewN | apply Kd.V_drew)); exact Kd.V_mono HO315.out (fun _ hk => ⟨hk.1.1, ⟨hk.1.2.1, ⟨hk.2, hk.1.2.2⟩⟩⟩)), (by (with_reducible repeat (first | apply Kd.V_alloc | apply Kd.V_drewN | apply Kd.V_drew)); exact Kd.V_mono HO_298001.out (fun _ hk => ⟨hk.1.1, ⟨hk.1.2.1, ⟨hk.2, hk.1.2.2⟩⟩⟩)), (by (with_reducible repeat (first | refine blk_drewN ?_ _ | refine blk_drew ?_ | refine blk_alloc ?_ _)); exact BK292.out), (by (with_reducible repeat (first | refine blk_drewN ?_ _ | refine blk_drew ?_ | refine blk_alloc ?_ _)); exact BK297.out), (by (with_reducible repeat (first | refine blk_drewN ?_ _ | refine blk_drew ?_ | refine blk_alloc ?_ _)); exact BK316.out), (by (with_reducible repeat (first | refine blk_drewN ?_ _ | refine blk_drew ?_ | refine blk_alloc ?_ _)); exact BK317.out), GW316.out, GE316.out, NB292_316.out, NB316_292.out, NB297_316.out, NB316_297.out, NB317_316.out, NB316_317.out, GW317.out, GE317.out, NB292_317.out, NB317_292.out, NB297_317.out, NB317_297.out, (by repeat (first | (with_reducible first | exact HB.out | apply below_alloc | apply pw_below_drewN | apply below_drew1 | refine below_set ?_ GE292.out | refine below_set ?_ GE297.out | refine below_set ?_ GE317.out | refine below_set ?_ GE316.out) | exact HB.out))⟩)
      ·skip
       rintro ⟨v306, v310, v314, gb316⟩ w38 ⟨hS_, h0_, h1_, h2_, h3_, h4_, h5_, h6_, h7_, h8_, h9_, h10_, h11_, h12_, h13_⟩
       have n0_ : Aside0 (Kd.V (Kd.int .u32) 44 w38 w.heap.size (fun k_ => k_ ≠ gb292 ∧ k_ ≠ gb297 ∧ k_ ≠ gb316) v306 t305) := ⟨h0_⟩
       have n1_ : Aside0 (Kd.V (Kd.int .u32) 44 w38 w.heap.size (fun k_ => k_ ≠ gb292 ∧ k_ ≠ gb297 ∧ k_ ≠ gb316) v310 t309) := ⟨h1_⟩
       have n2_ : Aside0 (Kd.V (Kd.int .u32) 44 w38 w.heap.size (fun k_ => k_ ≠ gb292 ∧ k_ ≠ gb297 ∧ k_ ≠ gb316) v314 t313) := ⟨h2_⟩
       have n3_ : Aside0 (Kd.V (Kd.int .u32) 44 w38 w.heap.size (fun k_ => k_ ≠ gb292 ∧ k_ ≠ gb297 ∧ k_ ≠ gb316) (.slice Ao10 t294.length co10) t294) := ⟨h3_⟩
       have n4_ : Aside0 (w38.heap[gb292]? = some (.cells #[.bool true, .slice A0_1 l0_1.length c0_1] 27 (0, 0))) := ⟨h4_⟩
       have n5_ : Aside0 (w38.heap[gb297]? = some (.cells #[.bool t293, .slice Ao10 t294.length co10] 27 (0, 0))) := ⟨h5_⟩
       have n6_ : Aside0 (w38.heap[gb316]? = some (.cells #[.bool false, .slice none 0 0] 27 (0, 0))) := ⟨h6_⟩
       have n7_ : Aside0 (w.heap.size ≤ gb316) := ⟨h7_⟩
       have n8_ : Aside0 (w.heap.size ≤ gb316) := ⟨h8_⟩
       have n9_ : Aside0 (gb292 ≠ gb316) := ⟨h9_⟩
       have n10_ : Aside0 (gb316 ≠ gb292) := ⟨h10_⟩
       have n11_ : Aside0 (gb297 ≠ gb316) := ⟨h11_⟩
       have n12_ : Aside0 (gb316 ≠ gb297) := ⟨h12_⟩
       have n13_ : Aside0 (Below w.heap.size w w38) := ⟨h13_⟩
       clear HO_298001 BK292 BK297 HB h0_ h1_ h2_ h3_ h4_ h5_ h6_ h7_ h8_ h9_ h10_ h11_ h12_ h13_
       have HO307 := n0_
       have HO311 := n1_
       have HO315 := n2_
       have HO_298001 := n3_
       have BK292 := n4_
       have BK297 := n5_
       have BK316 := n6_
       have GW316 := n7_
       have GE316 := n8_
       have NB292_316 := n9_
       have NB316_292 := n10_
       have NB297_316 := n11_
       have NB316_297 := n12_
       have HB := n13_
       clear n0_ n1_ n2_ n3_ n4_ n5_ n6_ n7_ n8_ n9_ n10_ n11_ n12_ n13_
       have hHeld : w38.cell? ⟨gb292, 0, none⟩ = some (.bool true) ∧ w38.cell? ⟨gb292, 1, none⟩ = some (.slice A0_1 l0_1.length c0_1) := hS_
       refine norm_ (a' := ?_) ?_ ?_
       rotate_left
       ·simp only [putAll, Act.put, List.setIfInBounds_toArray, List.set_cons_zero, List.set_cons_succ]
        rfl
       refine one_ (i := 9) (N := some 9) #[true, true, true, true, true, true, true, true, true, true, false, false] rfl rfl (one_of HT_.out (by kernel_rfl)) (by decide) (fun K hK => ?_)
       refine box_step ?hg (N := 9) ?hd (cs := #[.bool false, .slice none 0 0]) (t := 27) ?hr ?_; (case hd => rfl); (case hg => rfl); (case hr => first | (go_simp; done) | (go_simp; rfl))
       intro gb317 hg w39 hbox hb
       have n0_ := Aside0.mk (Kd.V_below (Kd.V_elderB (by (with_reducible repeat (first | apply Kd.V_alloc | apply Kd.V_drewN | apply Kd.V_drew)); exact HO_298001.out) gb317 (Nat.le_of_eq hg.symm)) hb)
       have n1_ := Aside0.mk (Kd.V_below (Kd.V_elderB (by (with_reducible repeat (first | apply Kd.V_alloc | apply Kd.V_drewN | apply Kd.V_drew)); exact HO307.out) gb317 (Nat.le_of_eq hg.symm)) hb)
       have n2_ := Aside0.mk (Kd.V_below (Kd.V_elderB (by (with_reducible repeat (first | apply Kd.V_alloc | apply Kd.V_drewN | apply Kd.V_drew)); exact HO311.out) gb317 (Nat.le_of_eq hg.symm)) hb)
       have n3_ := Aside0.mk (Kd.V_below (Kd.V_elderB (by (with_reducible repeat (first | apply Kd.V_alloc | apply Kd.V_drewN | apply Kd.V_drew)); exact HO315.out) gb317 (Nat.le_of_eq hg.symm)) hb)
       have n4_ := Aside0.mk (blk_below (g := gb292) (o := .cells #[.bool true, .slice A0_1 l0_1.length c0_1] 27 (0, 0)) (by (with_reducible repeat (first | refine blk_drewN ?_ _ | refine blk_drew ?_ | refine blk_alloc ?_ _)); exact BK292.out) hb)
       have n5_ := Aside0.mk (blk_below (g := gb297) (o := .cells #[.bool t293, .slice Ao10 t294.length co10] 27 (0, 0)) (by (with_reducible repeat (first | refine blk_drewN ?_ _ | refine blk_drew ?_ | refine blk_alloc ?_ _)); exact BK297.out) hb)
       have n6_ := Aside0.mk (blk_below (g := gb316) (o := .cells #[.bool false, .slice none 0 0] 27 (0, 0)) (by (with_reducible repeat (first | refine blk_drewN ?_ _ | refine blk_drew ?_ | refine blk_alloc ?_ _)); exact BK316.out) hb)
       have n7_ := Aside0.mk (below_step (by repeat (first | (with_reducible first | exact HB.out | apply below_alloc | apply pw_below_drewN | apply below_drew1 | refine below_set ?_ GE292.out | refine below_set ?_ GE297.out | refine below_set ?_ GE316.out) | exact HB.out)) hb)
       have n8_ := Aside0.mk (hbox)
       have n9_ := Aside0.mk ((by rw [hg]; exact (below_size (by repeat (first | (with_reducible first | exact HB.out | apply below_alloc | apply pw_below_drewN | apply below_drew1 | refine below_set ?_ GE292.out | refine below_set ?_ GE297.out | refine below_set ?_ GE316.out) | exact HB.out))) : w.heap.size ≤ gb317))
       have n10_ := Aside0.mk ((by rw [hg]; exact (below_size (by repeat (first | (with_reducible first | exact HB.out | apply below_alloc | apply pw_below_drewN | apply below_drew1 | refine below_set ?_ GE292.out | refine below_set ?_ GE297.out | refine below_set ?_ GE316.out) | exact HB.out))) : w.heap.size ≤ gb317))
       have n11_ := Aside0.mk ((by rw [hg]; exact Nat.ne_of_lt (blk_lt (g := gb292) (o := .cells #[.bool true, .slice A0_1 l0_1.length c0_1] 27 (0, 0)) (by (with_reducible repeat (first | refine blk_drewN ?_ _ | refine blk_drew ?_ | refine blk_alloc ?_ _)); exact BK292.out)) : gb292 ≠ gb317))
       have n12_ := Aside0.mk ((by rw [hg]; exact Nat.ne_of_gt (blk_lt (g := gb292) (o := .cells #[.bool true, .slice A0_1 l0_1.length c0_1] 27 (0, 0)) (by (with_reducible repeat (first | refine blk_drewN ?_ _ | refine blk_drew ?_ | refine blk_alloc ?_ _)); exact BK292.out)) : gb317 ≠ gb292))
       have n13_ := Aside0.mk ((by rw [hg]; exact Nat.ne_of_lt (blk_lt (g := gb297) (o := .cells #[.bool t293, .slice Ao10 t294.length co10] 27 (0, 0)) (by (with_reducible repeat (first | refine blk_drewN ?_ _ | refine blk_drew ?_ | refine blk_alloc ?_ _)); exact BK297.out)) : gb297 ≠ gb317))
       have n14_ := Aside0.mk ((by rw [hg]; exact Nat.ne_of_gt (blk_lt (g := gb297) (o := .cells #[.bool t293, .slice Ao10 t294.length co10] 27 (0, 0)) (by (with_reducible repeat (first | refine blk_drewN ?_ _ | refine blk_drew ?_ | refine blk_alloc ?_ _)); exact BK297.out)) : gb317 ≠ gb297))
       have n15_ := Aside0.mk ((by rw [hg]; exact Nat.ne_of_lt (blk_lt (g := gb316) (o := .cells #[.bool false, .slice none 0 0] 27 (0, 0)) (by (with_reducible repeat (first | refine blk_drewN ?_ _ | refine blk_drew ?_ | refine blk_alloc ?_ _)); exact BK316.out)) : gb316 ≠ gb317))
       have n16_ := Aside0.mk ((by rw [hg]; exact Nat.ne_of_gt (blk_lt (g := gb316) (o := .cells #[.bool false, .slice none 0 0] 27 (0, 0)) (by (with_reducible repeat (first | refine blk_drewN ?_ _ | refine blk_drew ?_ | refine blk_alloc ?_ _)); exact BK316.out)) : gb317 ≠ gb316))
       clear HO_298001 HO307 HO311 HO315 BK292 BK297 BK316 HB
       have HO_298001 := n0_
       have HO307 := n1_
       have HO311 := n2_
       have HO315 := n3_
       have BK292 := n4_
       have BK297 := n5_
       have BK316 := n6_
       have HB := n7_
       have BK317 := n8_
       have GW317 := n9_
       have GE317 := n10_
       have NB292_317 := n11_
       have NB317_292 := n12_
       have NB297_317 := n13_
       have NB317_297 := n14_
       have NB316_317 := n15_
       have NB317_316 := n16_
       clear n0_ n1_ n2_ n3_ n4_ n5_ n6_ n7_ n8_ n9_ n10_ n11_ n12_ n13_ n14_ n15_ n16_ hb hbox hg
       refine hK.out _ _ ⟨(blk_cell BK292.out 0).trans rfl, (blk_cell BK292.out 1).trans rfl⟩ (fun hHeld => ?_)
       clear hK K
       refine norm_ (a' := ?_) ?_ ?_
       rotate_left
       ·show Act.put _ (some 9) _ = _
        simp only [Act.put, List.setIfInBounds_toArray, List.set_cons_zero, List.set_cons_succ, i64_w, i32_w]
        rfl
       exact norm_ (by first | (simp only [putAll, Act.put, List.setIfInBounds_toArray, List.set_cons_zero, List.set_cons_succ]; done) | (simp only [putAll, Act.put, List.setIfInBounds_toArray, List.set_cons_zero, List.set_cons_succ]; rfl)) (hJ3_4_8_9 (v306, v310, v314, gb316, gb317) _ ⟨hHeld, (by (with_reducible repeat (first | apply Kd.V_alloc | apply Kd.V_drewN | apply Kd.V_drew)); exact Kd.V_mono HO307.out (fun _ hk => ⟨hk.1.1, ⟨hk.1.2.1, ⟨hk.1.2.2, hk.2⟩⟩⟩)), (by (with_reducible repeat (first | apply Kd.V_alloc | apply Kd.V_drewN | apply Kd.V_drew)); exact Kd.V_mono HO311.out (fun _ hk => ⟨hk.1.1, ⟨hk.1.2.1, ⟨hk.1.2.2, hk.2⟩⟩⟩)), (by (with_reducible repeat (first | apply Kd.V_alloc | apply Kd.V_drewN | apply Kd.V_drew)); exact Kd.V_mono HO315.out (fun _ hk => ⟨hk.1.1, ⟨hk.1.2.1, ⟨hk.1.2.2, hk.2⟩⟩⟩)), (by (with_reducible repeat (first | apply Kd.V_alloc | apply Kd.V_drewN | apply Kd.V_drew)); exact Kd.V_mono HO_298001.out (fun _ hk => ⟨hk.1.1, ⟨hk.1.2.1, ⟨hk.1.2.2, hk.2⟩⟩⟩)), (by (with_reducible repeat (first | refine blk_drewN ?_ _ | refine blk_drew ?_ | refine blk_alloc ?_ _)); exact BK292.out), (by (with_reducible repeat (first | refine blk_drewN ?_ _ | refine blk_drew ?_ | refine blk_alloc ?_ _)); exact BK297.out), (by (with_reducible repeat (first | refine blk_drewN ?_ _ | refine blk_drew ?_ | refine blk_alloc ?_ _)); exact BK316.out), (by (with_reducible repeat (first | refine blk_drewN ?_ _ | refine blk_drew ?_ | refine blk_alloc ?_ _)); exact BK317.out), GW316.out, GE316.out, NB292_316.out, NB316_292.out, NB297_316.out, NB316_297.out, NB317_316.out, NB316_317.out, GW317.out, GE317.out, NB292_317.out, NB317_292.out, NB297_317.out, NB317_297.out, (by repeat (first | (with_reducible first | exact HB.out | apply below_alloc | apply pw_below_drewN | apply below_drew1 | refine below_set ?_ GE292.out | refine below_set ?_ GE297.out | refine below_set ?_ GE316.out | refine below_set ?_ GE317.out) | exact HB.out))⟩)
     rintro ⟨v306, v310, v314, gb316, gb317⟩ w39 ⟨hS_, h0_, h1_, h2_, h3_, h4_, h5_, h6_, h7_, h8_, h9_, h10_, h11_, h12_, h13_, h14_, h15_, h16_, h17_, h18_, h19_, h20_, h21_, h22_⟩
     have n0_ : Aside0 (Kd.V (Kd.int .u32) 44 w39 w.heap.size (fun k_ => k_ ≠ gb292 ∧ k_ ≠ gb297 ∧ k_ ≠ gb316 ∧ k_ ≠ gb317) v306 t305) := ⟨h0_⟩
     have n1_ : Aside0 (Kd.V (Kd.int .u32) 44 w39 w.heap.size (fun k_ => k_ ≠ gb292 ∧ k_ ≠ gb297 ∧ k_ ≠ gb316 ∧ k_ ≠ gb317) v310 t309) := ⟨h1_⟩
     have n2_ : Aside0 (Kd.V (Kd.int .u32) 44 w39 w.heap.size (fun k_ => k_ ≠ gb292 ∧ k_ ≠ gb297 ∧ k_ ≠ gb316 ∧ k_ ≠ gb317) v314 t313) := ⟨h2_⟩
     have n3_ : Aside0 (Kd.V (Kd.int .u32) 44 w39 w.heap.size (fun k_ => k_ ≠ gb292 ∧ k_ ≠ gb297 ∧ k_ ≠ gb316 ∧ k_ ≠ gb317) (.slice Ao10 t294.length co10) t294) := ⟨h3_⟩
     have n4_ : Aside0 (w39.heap[gb292]? = some (.cells #[.bool true, .slice A0_1 l0_1.length c0_1] 27 (0, 0))) := ⟨h4_⟩
     have n5_ : Aside0 (w39.heap[gb297]? = some (.cells #[.bool t293, .slice Ao10 t294.length co10] 27 (0, 0))) := ⟨h5_⟩
     have n6_ : Aside0 (w39.heap[gb316]? = some (.cells #[.bool false, .slice none 0 0] 27 (0, 0))) := ⟨h6_⟩
     have n7_ : Aside0 (w39.heap[gb317]? = some (.cells #[.bool false, .slice none 0 0] 27 (0, 0))) := ⟨h7_⟩
     have n8_ : Aside0 (w.heap.size ≤ gb316) := ⟨h8_⟩
     have n9_ : Aside0 (w.heap.size ≤ gb316) := ⟨h9_⟩
     have n10_ : Aside0 (gb292 ≠ gb316) := ⟨h10_⟩
     have n11_ : Aside0 (gb316 ≠ gb292) := ⟨h11_⟩
     have n12_ : Aside0 (gb297 ≠ gb316) := ⟨h12_⟩
     have n13_ : Aside0 (gb316 ≠ gb297) := ⟨h13_⟩
     have n14_ : Aside0 (gb317 ≠ gb316) := ⟨h14_⟩
     have n15_ : Aside0 (gb316 ≠ gb317) := ⟨h15_⟩
     have n16_ : Aside0 (w.heap.size ≤ gb317) := ⟨h16_⟩
     have n17_ : Aside0 (w.heap.size ≤ gb317) := ⟨h17_⟩
     have n18_ : Aside0 (gb292 ≠ gb317) := ⟨h18_⟩
     have n19_ : Aside0 (gb317 ≠ gb292) := ⟨h19_⟩
     have n20_ : Aside0 (gb297 ≠ gb317) := ⟨h20_⟩
     have n21_ : Aside0 (gb317 ≠ gb297) := ⟨h21_⟩
     have n22_ : Aside0 (Below w.heap.size w w39) := ⟨h22_⟩
     clear HO_298001 BK292 BK297 HB h0_ h1_ h2_ h3_ h4_ h5_ h6_ h7_ h8_ h9_ h10_ h11_ h12_ h13_ h14_ h15_ h16_ h17_ h18_ h19_ h20_ h21_ h22_
     have HO307 := n0_
     have HO311 := n1_
     have HO315 := n2_
     have HO_298001 := n3_
     have BK292 := n4_
     have BK297 := n5_
     have BK316 := n6_
     have BK317 := n7_
     have GW316 := n8_
     have GE316 := n9_
     have NB292_316 := n10_
     have NB316_292 := n11_
     have NB297_316 := n12_
     have NB316_297 := n13_
     have NB317_316 := n14_
     have NB316_317 := n15_
     have GW317 := n16_
     have GE317 := n17_
     have NB292_317 := n18_
     have NB317_292 := n19_
     have NB297_317 := n20_
     have NB317_297 := n21_
     have HB := n22_
     clear n0_ n1_ n2_ n3_ n4_ n5_ n6_ n7_ n8_ n9_ n10_ n11_ n12_ n13_ n14_ n15_ n16_ n17_ n18_ n19_ n20_ n21_ n22_
     have hHeld : w39.cell? ⟨gb292, 0, none⟩ = some (.bool true) ∧ w39.cell? ⟨gb292, 1, none⟩ = some (.slice A0_1 l0_1.length c0_1) := hS_
     obtain ⟨Ao41, co41, eo41⟩ := Kd.V_slice HO311.out
     (first | subst eo41 | (injection eo41 with f1_ f2_ f3_; have f4_ := f1_.symm; have f5_ := f3_.symm; clear f1_ f2_ f3_; subst f4_; subst f5_))
     obtain ⟨Ao44, co44, eo44⟩ := Kd.V_slice HO315.out
     (first | subst eo44 | (injection eo44 with f1_ f2_ f3_; have f4_ := f1_.symm; have f5_ := f3_.symm; clear f1_ f2_ f3_; subst f4_; subst f5_))
     refine norm_ (a' := ?_) ?_ ?_
     rotate_left
     ·simp only [putAll, Act.put, List.setIfInBounds_toArray, List.set_cons_zero, List.set_cons_succ]
      rfl
     refine one_ (i := 10) (N := none) #[true, true, true, true, true, true, true, true, true, true, true, false] rfl rfl (one_of HT_.out (by kernel_rfl)) (by decide) (fun K hK => ?_)
     have hs40 : w39.cell? ⟨gb316, 0, none⟩ = some (.bool false) := (blk_cell BK316.out 0).trans rfl
     have hfs40 := blk_frozen BK316.out 0
     have hns40_0 := NB292_316.out
     have hns40_1 := NB297_316.out
     have hns40_3 := NB317_316.out
     have hms40_0 := NB316_292.out
     have hms40_1 := NB316_297.out
     have hms40_3 := NB316_317.out
     have hs42 : w39.cell? ⟨gb316, 1, none⟩ = some (.slice none 0 0) := (blk_cell BK316.out 1).trans rfl
     have hfs42 := blk_frozen BK316.out 1
     have hns42_0 := NB292_316.out
     have hns42_1 := NB297_316.out
     have hns42_3 := NB317_316.out
     have hms42_0 := NB316_292.out
     have hms42_1 := NB316_297.out
     have hms42_3 := NB316_317.out
     refine skip_ (w1 := ?_) (by rfl) rfl ?_ ?_
     rotate_left
     ·go_simp
      rfl
     refine hK.out _ _ ⟨((cell_far (p := ⟨gb316, _, none⟩) NB292_316.out _).trans (((cell_far (p := ⟨gb316, _, none⟩) NB292_316.out _).trans (hHeld.1)))), ((cell_far (p := ⟨gb316, _, none⟩) NB292_316.out _).trans (((cell_far (p := ⟨gb316, _, none⟩) NB292_316.out _).trans (hHeld.2))))⟩ (fun hHeld => ?_)
     clear hK K
     refine one_ (i := 11) (N := none) #[true, true, true, true, true, true, true, true, true, true, true, true] rfl rfl (one_of HT_.out (by kernel_rfl)) (by decide) (fun K hK => ?_)
     have hs43 : w39.cell? ⟨gb317, 0, none⟩ = some (.bool false) := (blk_cell BK317.out 0).trans rfl
     have hfs43 := blk_frozen BK317.out 0
     have hns43_0 := NB292_317.out
     have hns43_1 := NB297_317.out
     have hns43_2 := NB316_317.out
     have hms43_0 := NB317_292.out
     have hms43_1 := NB317_297.out
     have hms43_2 := NB317_316.out
     have hs45 : w39.cell? ⟨gb317, 1, none⟩ = some (.slice none 0 0) := (blk_cell BK317.out 1).trans rfl
     have hfs45 := blk_frozen BK317.out 1
     have hns45_0 := NB292_317.out
     have hns45_1 := NB297_317.out
     have hns45_2 := NB316_317.out
     have hms45_0 := NB317_292.out
     have hms45_1 := NB317_297.out
     have hms45_2 := NB317_316.out
     refine skip_ (w1 := ?_) (by rfl) rfl ?_ ?_
     rotate_left
     ·go_simp
      rfl
     refine hK.out _ _ ⟨((cell_far (p := ⟨gb317, _, none⟩) NB292_317.out _).trans (((cell_far (p := ⟨gb317, _, none⟩) NB292_317.out _).trans (hHeld.1)))), ((cell_far (p := ⟨gb317, _, none⟩) NB292_317.out _).trans (((cell_far (p := ⟨gb317, _, none⟩) NB292_317.out _).trans (hHeld.2))))⟩ (fun hHeld => ?_)
     clear hK K
     refine done_ (done_of HT_.out (by kernel_rfl)) ?_
     try go_wp2
     have n0_ : Aside0 (Kd.V (Kd.int .u32) 44 ((((w39.setCell ⟨gb316, 0, none⟩ (.bool t308)).setCell ⟨gb316, 1, none⟩ (.slice Ao41 t309.length co41)).setCell ⟨gb317, 0, none⟩ (.bool t312)).setCell ⟨gb317, 1, none⟩ (.slice Ao44 t313.length co44)) w.heap.size (fun k_ => k_ ≠ gb292 ∧ k_ ≠ gb297 ∧ k_ ≠ gb316 ∧ k_ ≠ gb317) (.slice Ao10 t294.length co10) t294) := ⟨by (with_reducible repeat (first | apply Kd.V_alloc | apply Kd.V_drewN | apply Kd.V_drew)); exact Kd.V_mono (Kd.V_far (p := ⟨gb317, 1, none⟩) (Kd.V_far (p := ⟨gb317, 0, none⟩) (Kd.V_far (p := ⟨gb316, 1, none⟩) (Kd.V_far (p := ⟨gb316, 0, none⟩) (Kd.V_mono (Kd.V_mono HO_298001.out (fun k_ hk => (⟨hk, hk.2.2.1⟩ : _ ∧ k_ ≠ gb316))) (fun k_ hk => (⟨hk, hk.1.2.2.2⟩ : _ ∧ k_ ≠ gb317))) (fun _ hk => hk.1.2) (.bool t308)) (fun _ hk => hk.1.2) (.slice Ao41 t309.length co41)) (fun _ hk => hk.2) (.bool t312)) (fun _ hk => hk.2) (.slice Ao44 t313.length co44)) (fun _ hk => ⟨hk.1.1.1, ⟨hk.1.1.2.1, ⟨hk.1.1.2.2.1, hk.1.1.2.2.2⟩⟩⟩)⟩
     have n1_ : Aside0 (Kd.V (Kd.int .u32) 44 ((((w39.setCell ⟨gb316, 0, none⟩ (.bool t308)).setCell ⟨gb316, 1, none⟩ (.slice Ao41 t309.length co41)).setCell ⟨gb317, 0, none⟩ (.bool t312)).setCell ⟨gb317, 1, none⟩ (.slice Ao44 t313.length co44)) w.heap.size (fun k_ => k_ ≠ gb292 ∧ k_ ≠ gb297 ∧ k_ ≠ gb316 ∧ k_ ≠ gb317) v306 t305) := ⟨by (with_reducible repeat (first | apply Kd.V_alloc | apply Kd.V_drewN | apply Kd.V_drew)); exact Kd.V_mono (Kd.V_far (p := ⟨gb317, 1, none⟩) (Kd.V_far (p := ⟨gb317, 0, none⟩) (Kd.V_far (p := ⟨gb316, 1, none⟩) (Kd.V_far (p := ⟨gb316, 0, none⟩) (Kd.V_mono (Kd.V_mono HO307.out (fun k_ hk => (⟨hk, hk.2.2.1⟩ : _ ∧ k_ ≠ gb316))) (fun k_ hk => (⟨hk, hk.1.2.2.2⟩ : _ ∧ k_ ≠ gb317))) (fun _ hk => hk.1.2) (.bool t308)) (fun _ hk => hk.1.2) (.slice Ao41 t309.length co41)) (fun _ hk => hk.2) (.bool t312)) (fun _ hk => hk.2) (.slice Ao44 t313.length co44)) (fun _ hk => ⟨hk.1.1.1, ⟨hk.1.1.2.1, ⟨hk.1.1.2.2.1, hk.1.1.2.2.2⟩⟩⟩)⟩
     have n2_ : Aside0 (Kd.V (Kd.int .u32) 44 ((((w39.setCell ⟨gb316, 0, none⟩ (.bool t308)).setCell ⟨gb316, 1, none⟩ (.slice Ao41 t309.length co41)).setCell ⟨gb317, 0, none⟩ (.bool t312)).setCell ⟨gb317, 1, none⟩ (.slice Ao44 t313.length co44)) w.heap.size (fun k_ => k_ ≠ gb292 ∧ k_ ≠ gb297 ∧ k_ ≠ gb316 ∧ k_ ≠ gb317) (.slice Ao41 t309.length co41) t309) := ⟨by (with_reducible repeat (first | apply Kd.V_alloc | apply Kd.V_drewN | apply Kd.V_drew)); exact Kd.V_mono (Kd.V_far (p := ⟨gb317, 1, none⟩) (Kd.V_far (p := ⟨gb317, 0, none⟩) (Kd.V_far (p := ⟨gb316, 1, none⟩) (Kd.V_far (p := ⟨gb316, 0, none⟩) (Kd.V_mono (Kd.V_mono HO311.out (fun k_ hk => (⟨hk, hk.2.2.1⟩ : _ ∧ k_ ≠ gb316))) (fun k_ hk => (⟨hk, hk.1.2.2.2⟩ : _ ∧ k_ ≠ gb317))) (fun _ hk => hk.1.2) (.bool t308)) (fun _ hk => hk.1.2) (.slice Ao41 t309.length co41)) (fun _ hk => hk.2) (.bool t312)) (fun _ hk => hk.2) (.slice Ao44 t313.length co44)) (fun _ hk => ⟨hk.1.1.1, ⟨hk.1.1.2.1, ⟨hk.1.1.2.2.1, hk.1.1.2.2.2⟩⟩⟩)⟩
     have n3_ : Aside0 (Kd.V (Kd.int .u32) 44 ((((w39.setCell ⟨gb316, 0, none⟩ (.bool t308)).setCell ⟨gb316, 1, none⟩ (.slice Ao41 t309.length co41)).setCell ⟨gb317, 0, none⟩ (.bool t312)).setCell ⟨gb317, 1, none⟩ (.slice Ao44 t313.length co44)) w.heap.size (fun k_ => k_ ≠ gb292 ∧ k_ ≠ gb297 ∧ k_ ≠ gb316 ∧ k_ ≠ gb317) (.slice Ao44 t313.length co44) t313) := ⟨by (with_reducible repeat (first | apply Kd.V_alloc | apply Kd.V_drewN | apply Kd.V_drew)); exact Kd.V_mono (Kd.V_far (p := ⟨gb317, 1, none⟩) (Kd.V_far (p := ⟨gb317, 0, none⟩) (Kd.V_far (p := ⟨gb316, 1, none⟩) (Kd.V_far (p := ⟨gb316, 0, none⟩) (Kd.V_mono (Kd.V_mono HO315.out (fun k_ hk => (⟨hk, hk.2.2.1⟩ : _ ∧ k_ ≠ gb316))) (fun k_ hk => (⟨hk, hk.1.2.2.2⟩ : _ ∧ k_ ≠ gb317))) (fun _ hk => hk.1.2) (.bool t308)) (fun _ hk => hk.1.2) (.slice Ao41 t309.length co41)) (fun _ hk => hk.2) (.bool t312)) (fun _ hk => hk.2) (.slice Ao44 t313.length co44)) (fun _ hk => ⟨hk.1.1.1, ⟨hk.1.1.2.1, ⟨hk.1.1.2.2.1, hk.1.1.2.2.2⟩⟩⟩)⟩
     have n4_ : Aside0 (((((w39.setCell ⟨gb316, 0, none⟩ (.bool t308)).setCell ⟨gb316, 1, none⟩ (.slice Ao41 t309.length co41)).setCell ⟨gb317, 0, none⟩ (.bool t312)).setCell ⟨gb317, 1, none⟩ (.slice Ao44 t313.length co44)).heap[gb292]? = some (.cells #[.bool true, .slice A0_1 l0_1.length c0_1] 27 (0, 0))) := ⟨by (with_reducible repeat (first | refine blk_drewN ?_ _ | refine blk_drew ?_ | refine blk_alloc ?_ _)); refine blk_far ?_ NB292_317.out _; (with_reducible repeat (first | refine blk_drewN ?_ _ | refine blk_drew ?_ | refine blk_alloc ?_ _)); refine blk_far ?_ NB292_317.out _; (with_reducible repeat (first | refine blk_drewN ?_ _ | refine blk_drew ?_ | refine blk_alloc ?_ _)); refine blk_far ?_ NB292_316.out _; (with_reducible repeat (first | refine blk_drewN ?_ _ | refine blk_drew ?_ | refine blk_alloc ?_ _)); refine blk_far ?_ NB292_316.out _; (with_reducible repeat (first | refine blk_drewN ?_ _ | refine blk_drew ?_ | refine blk_alloc ?_ _)); exact BK292.out⟩
     have n5_ : Aside0 (((((w39.setCell ⟨gb316, 0, none⟩ (.bool t308)).setCell ⟨gb316, 1, none⟩ (.slice Ao41 t309.length co41)).setCell ⟨gb317, 0, none⟩ (.bool t312)).setCell ⟨gb317, 1, none⟩ (.slice Ao44 t313.length co44)).heap[gb297]? = some (.cells #[.bool t293, .slice Ao10 t294.length co10] 27 (0, 0))) := ⟨by (with_reducible repeat (first | refine blk_drewN ?_ _ | refine blk_drew ?_ | refine blk_alloc ?_ _)); refine blk_far ?_ NB297_317.out _; (with_reducible repeat (first | refine blk_drewN ?_ _ | refine blk_drew ?_ | refine blk_alloc ?_ _)); refine blk_far ?_ NB297_317.out _; (with_reducible repeat (first | refine blk_drewN ?_ _ | refine blk_drew ?_ | refine blk_alloc ?_ _)); refine blk_far ?_ NB297_316.out _; (with_reducible repeat (first | refine blk_drewN ?_ _ | refine blk_drew ?_ | refine blk_alloc ?_ _)); refine blk_far ?_ NB297_316.out _; (with_reducible repeat (first | refine blk_drewN ?_ _ | refine blk_drew ?_ | refine blk_alloc ?_ _)); exact BK297.out⟩
     have n6_ : Aside0 (((((w39.setCell ⟨gb316, 0, none⟩ (.bool t308)).setCell ⟨gb316, 1, none⟩ (.slice Ao41 t309.length co41)).setCell ⟨gb317, 0, none⟩ (.bool t312)).setCell ⟨gb317, 1, none⟩ (.slice Ao44 t313.length co44)).heap[gb316]? = some (.cells #[.bool t308, .slice Ao41 t309.length co41] 27 (0, 0))) := ⟨by (with_reducible repeat (first | refine blk_drewN ?_ _ | refine blk_drew ?_ | refine blk_alloc ?_ _)); refine blk_far ?_ NB316_317.out _; (with_reducible repeat (first | refine blk_drewN ?_ _ | refine blk_drew ?_ | refine blk_alloc ?_ _)); refine blk_far ?_ NB316_317.out _; (with_reducible repeat (first | refine blk_drewN ?_ _ | refine blk_drew ?_ | refine blk_alloc ?_ _)); refine blk_put (cs := #[.bool t308, .slice none 0 0]) ?_ 1 _ rfl; (with_reducible repeat (first | refine blk_drewN ?_ _ | refine blk_drew ?_ | refine blk_alloc ?_ _)); refine blk_put (cs := #[.bool false, .slice none 0 0]) ?_ 0 _ rfl; (with_reducible repeat (first | refine blk_drewN ?_ _ | refine blk_drew ?_ | refine blk_alloc ?_ _)); exact BK316.out⟩
     have n7_ : Aside0 (((((w39.setCell ⟨gb316, 0, none⟩ (.bool t308)).setCell ⟨gb316, 1, none⟩ (.slice Ao41 t309.length co41)).setCell ⟨gb317, 0, none⟩ (.bool t312)).setCell ⟨gb317, 1, none⟩ (.slice Ao44 t313.length co44)).heap[gb317]? = some (.cells #[.bool t312, .slice Ao44 t313.length co44] 27 (0, 0))) := ⟨by (with_reducible repeat (first | refine blk_drewN ?_ _ | refine blk_drew ?_ | refine blk_alloc ?_ _)); refine blk_put (cs := #[.bool t312, .slice none 0 0]) ?_ 1 _ rfl; (with_reducible repeat (first | refine blk_drewN ?_ _ | refine blk_drew ?_ | refine blk_alloc ?_ _)); refine blk_put (cs := #[.bool false, .slice none 0 0]) ?_ 0 _ rfl; (with_reducible repeat (first | refine blk_drewN ?_ _ | refine blk_drew ?_ | refine blk_alloc ?_ _)); refine blk_far ?_ NB317_316.out _; (with_reducible repeat (first | refine blk_drewN ?_ _ | refine blk_drew ?_ | refine blk_alloc ?_ _)); refine blk_far ?_ NB317_316.out _; (with_reducible repeat (first | refine blk_drewN ?_ _ | refine blk_drew ?_ | refine blk_alloc ?_ _)); exact BK317.out⟩
     have n8_ : Aside0 (Below w.heap.size w ((((w39.setCell ⟨gb316, 0, none⟩ (.bool t308)).setCell ⟨gb316, 1, none⟩ (.slice Ao41 t309.length co41)).setCell ⟨gb317, 0, none⟩ (.bool t312)).setCell ⟨gb317, 1, none⟩ (.slice Ao44 t313.length co44))) := ⟨by repeat (first | (with_reducible first | exact HB.out | apply below_alloc | apply pw_below_drewN | apply below_drew1 | refine below_set ?_ GE292.out | refine below_set ?_ GE297.out | refine below_set ?_ GE316.out | refine below_set ?_ GE317.out) | exact HB.out)⟩
     (try clear HO_298001)
     (try clear HO307)
     (try clear HO311)
     (try clear HO315)
     (try clear BK292)
     (try clear BK297)
     (try clear BK316)
     (try clear BK317)
     (try clear HB)
     generalize ((((w39.setCell ⟨gb316, 0, none⟩ (.bool t308)).setCell ⟨gb316, 1, none⟩ (.slice Ao41 t309.length co41)).setCell ⟨gb317, 0, none⟩ (.bool t312)).setCell ⟨gb317, 1, none⟩ (.slice Ao44 t313.length co44)) = w46 at n0_ n1_ n2_ n3_ n4_ n5_ n6_ n7_ n8_ ⊢
     have HO_298001 := n0_
     have HO307 := n1_
     have HO311 := n2_
     have HO315 := n3_
     have BK292 := n4_
     have BK297 := n5_
     have BK316 := n6_
     have BK317 := n7_
     have HB := n8_
     clear n0_ n1_ n2_ n3_ n4_ n5_ n6_ n7_ n8_
     have n0_ := Aside0.mk (Kd.V_drew HO_298001.out)
     have n1_ := Aside0.mk (Kd.V_drew HO307.out)
     have n2_ := Aside0.mk (Kd.V_drew HO311.out)
     have n3_ := Aside0.mk (Kd.V_drew HO315.out)
     have n4_ := Aside0.mk (blk_drew BK292.out)
     have n5_ := Aside0.mk (blk_drew BK297.out)
     have n6_ := Aside0.mk (blk_drew BK316.out)
     have n7_ := Aside0.mk (blk_drew BK317.out)
     have n8_ := Aside0.mk (below_drew1 HB.out)
     clear HO_298001 HO307 HO311 HO315 BK292 BK297 BK316 BK317 HB
     have HO_298001 := n0_
     have HO307 := n1_
     have HO311 := n2_
     have HO315 := n3_
     have BK292 := n4_
     have BK297 := n5_
     have BK316 := n6_
     have BK317 := n7_
     have HB := n8_
     clear n0_ n1_ n2_ n3_ n4_ n5_ n6_ n7_ n8_
     refine start_ (n := 6) (S := fun w' => w'.cell? ⟨gb317, 0, none⟩ = some (.bool t312) ∧ w'.cell? ⟨gb317, 1, none⟩ = some (.slice Ao44 t313.length co44)) (ds := []) #[false, false, false, false, false, false] (by kernel_rfl) rfl rfl ⟨(blk_cell BK317.out 0).trans rfl, (blk_cell BK317.out 1).trans rfl⟩ (fun hHeld => ?_)
     generalize w46.drew = w47 at HO_298001 HO307 HO311 HO315 BK292 BK297 BK316 BK317 HB hHeld ⊢
     refine pure_ (i := 1) (N := some 39) (v := ?_) (a' := ?_) #[false, true, false, false, false, false] rfl rfl (by kernel_rfl) (fun _ _ _ h => h) (Or.inl ⟨by rfl, ?_⟩) ?_ ?_
     rotate_left
     ·intro w'
      go_simp
      with_reducible rfl
     rotate_left
     ·simp only [Act.put, List.setIfInBounds_toArray, List.set_cons_zero, List.set_cons_succ, i64_w, i32_w]
      rfl
     refine pure_ (i := 2) (N := some 40) (v := ?_) (a' := ?_) #[false, true, true, false, false, false] rfl rfl (by kernel_rfl) (fun _ _ _ h => h) (Or.inl ⟨by rfl, ?_⟩) ?_ ?_
     rotate_left
     ·intro w'
      go_simp
      with_reducible rfl
     rotate_left
     ·simp only [Act.put, List.setIfInBounds_toArray, List.set_cons_zero, List.set_cons_succ, i64_w, i32_w]
      rfl
     refine take_ (i := 0) (N := some 38) (v := ?_) (a' := ?_) #[true, true, true, false, false, false] rfl rfl (by kernel_rfl) (fun _ _ _ h => h) (Or.inl ⟨by rfl, ?_⟩) hHeld ?_ ?_
     rotate_left
     ·rintro w' ⟨s0, s1⟩
      go_simp
      with_reducible rfl
     rotate_left
     ·simp only [Act.put, List.setIfInBounds_toArray, List.set_cons_zero, List.set_cons_succ, i64_w, i32_w]
      rfl
     refine one_ (i := 3) (N := some 41) #[true, true, true, true, false, false] rfl rfl (by kernel_rfl) (by decide) (fun K hK => ?_)
     refine goes_ Try.func36 (by kernel_rfl) rfl #[.int .i64 (wrap64 (64 * a1))] (by rfl) rfl rfl (by (try simp only [List.map_toArray, List.map_cons, List.map_nil]); first | done | rfl | (simp only [List.length_drop, List.length_take]; rfl)) ?_
     with_reducible refine (spec_Two.calls kj3 (wrap64 (64 * a1)) t318 t319 _ A27.out).mono ?_
     rintro e w48 ⟨v320, rfl, ho0, hb⟩
     refine ⟨_, rfl, ?_⟩
     have n0_ := Aside0.mk (Kd.V_below (by (with_reducible repeat (first | apply Kd.V_alloc | apply Kd.V_drewN | apply Kd.V_drew)); exact HO_298001.out) hb)
     have n1_ := Aside0.mk (Kd.V_below (by (with_reducible repeat (first | apply Kd.V_alloc | apply Kd.V_drewN | apply Kd.V_drew)); exact HO307.out) hb)
     have n2_ := Aside0.mk (Kd.V_below (by (with_reducible repeat (first | apply Kd.V_alloc | apply Kd.V_drewN | apply Kd.V_drew)); exact HO311.out) hb)
     have n3_ := Aside0.mk (Kd.V_below (by (with_reducible repeat (first | apply Kd.V_alloc | apply Kd.V_drewN | apply Kd.V_drew)); exact HO315.out) hb)
     have n4_ := Aside0.mk (Kd.V_lower (Kd.V_mono (ok' := fun k_ => k_ ≠ gb292 ∧ k_ ≠ gb297 ∧ k_ ≠ gb316 ∧ k_ ≠ gb317) ho0 (fun k_ hk_ => ⟨(Kd.freshB (g := gb292) (o := .cells #[.bool true, .slice A0_1 l0_1.length c0_1] 27 (0, 0)) (by (with_reducible repeat (first | refine blk_drewN ?_ _ | refine blk_drew ?_ | refine blk_alloc ?_ _)); exact BK292.out) k_ hk_), (Kd.freshB (g := gb297) (o := .cells #[.bool t293, .slice Ao10 t294.length co10] 27 (0, 0)) (by (with_reducible repeat (first | refine blk_drewN ?_ _ | refine blk_drew ?_ | refine blk_alloc ?_ _)); exact BK297.out) k_ hk_), (Kd.freshB (g := gb316) (o := .cells #[.bool t308, .slice Ao41 t309.length co41] 27 (0, 0)) (by (with_reducible repeat (first | refine blk_drewN ?_ _ | refine blk_drew ?_ | refine blk_alloc ?_ _)); exact BK316.out) k_ hk_), (Kd.freshB (g := gb317) (o := .cells #[.bool t312, .slice Ao44 t313.length co44] 27 (0, 0)) (by (with_reducible repeat (first | refine blk_drewN ?_ _ | refine blk_drew ?_ | refine blk_alloc ?_ _)); exact BK317.out) k_ hk_)⟩)) (below_size (by repeat (first | (with_reducible first | exact HB.out | apply below_alloc | apply pw_below_drewN | apply below_drew1 | refine below_set ?_ GE292.out | refine below_set ?_ GE297.out | refine below_set ?_ GE316.out | refine below_set ?_ GE317.out) | exact HB.out))))
     have n5_ := Aside0.mk (blk_below (g := gb292) (o := .cells #[.bool true, .slice A0_1 l0_1.length c0_1] 27 (0, 0)) (by (with_reducible repeat (first | refine blk_drewN ?_ _ | refine blk_drew ?_ | refine blk_alloc ?_ _)); exact BK292.out) hb)
     have n6_ := Aside0.mk (blk_below (g := gb297) (o := .cells #[.bool t293, .slice Ao10 t294.length co10] 27 (0, 0)) (by (with_reducible repeat (first | refine blk_drewN ?_ _ | refine blk_drew ?_ | refine blk_alloc ?_ _)); exact BK297.out) hb)
     have n7_ := Aside0.mk (blk_below (g := gb316) (o := .cells #[.bool t308, .slice Ao41 t309.length co41] 27 (0, 0)) (by (with_reducible repeat (first | refine blk_drewN ?_ _ | refine blk_drew ?_ | refine blk_alloc ?_ _)); exact BK316.out) hb)
     have n8_ := Aside0.mk (blk_below (g := gb317) (o := .cells #[.bool t312, .slice Ao44 t313.length co44] 27 (0, 0)) (by (with_reducible repeat (first | refine blk_drewN ?_ _ | refine blk_drew ?_ | refine blk_alloc ?_ _)); exact BK317.out) hb)
     have n9_ := Aside0.mk (below_step (by repeat (first | (with_reducible first | exact HB.out | apply below_alloc | apply pw_below_drewN | apply below_drew1 | refine below_set ?_ GE292.out | refine below_set ?_ GE297.out | refine below_set ?_ GE316.out | refine below_set ?_ GE317.out) | exact HB.out)) hb)
     clear HO_298001 HO307 HO311 HO315 BK292 BK297 BK316 BK317 HB
     have HO_298001 := n0_
     have HO307 := n1_
     have HO311 := n2_
     have HO315 := n3_
     have HO321 := n4_
     have BK292 := n5_
     have BK297 := n6_
     have BK316 := n7_
     have BK317 := n8_
     have HB := n9_
     clear n0_ n1_ n2_ n3_ n4_ n5_ n6_ n7_ n8_ n9_
     (try clear hb)
     (try clear hb2)
     (try clear hk)
     (try clear hi)
     (try clear ho0)
     obtain ⟨Ao49, co49, eo49⟩ := Kd.V_slice HO321.out
     (first | subst eo49 | (injection eo49 with f1_ f2_ f3_; have f4_ := f1_.symm; have f5_ := f3_.symm; clear f1_ f2_ f3_; subst f4_; subst f5_))
     refine hK.out _ _ ⟨(blk_cell BK317.out 0).trans rfl, (blk_cell BK317.out 1).trans rfl⟩ (fun hHeld => ?_)
     clear hK K
     refine norm_ (a' := ?_) ?_ ?_
     rotate_left
     ·show Act.put _ (some 41) _ = _
      simp only [Act.put, List.setIfInBounds_toArray, List.set_cons_zero, List.set_cons_succ, i64_w, i32_w]
      rfl
     refine one_ (i := 4) (N := some 42) #[true, true, true, true, true, false] rfl rfl (by kernel_rfl) (by decide) (fun K hK => ?_)
     refine goes_ Try.func16 (by kernel_rfl) rfl #[.agg #[.bool t312, .slice Ao44 t313.length co44], .agg #[.bool t318, .slice Ao49 t319.length co49]] (by rfl) rfl rfl (by (try simp only [List.map_toArray, List.map_cons, List.map_nil]); first | done | rfl | (simp only [List.length_drop, List.length_take]; rfl)) ?_
     with_reducible refine (spec_WideAdd.calls kj3 t312 _ _ t313 t318 _ _ t319 t322 t323 _ ?side1 ?side2 ?side3 ?side4 A28.out).mono ?_
     (case side1 => repeat (first | exact (Kd.V_reads' HO315.out).2.2 | (with_reducible refine Kd.C_alloc ?_ _) | (with_reducible refine Kd.C_drewN ?_ _) | (with_reducible refine Kd.C_drew ?_)))
     (case side2 => exact (Kd.V_reads' HO315.out).2.1)
     (case side3 => repeat (first | exact (Kd.V_reads' HO321.out).2.2 | (with_reducible refine Kd.C_alloc ?_ _) | (with_reducible refine Kd.C_drewN ?_ _) | (with_reducible refine Kd.C_drew ?_)))
     (case side4 => exact (Kd.V_reads' HO321.out).2.1)
     rintro e w50 ⟨v324, rfl, ho0, hb⟩
     refine ⟨_, rfl, ?_⟩
     have n0_ := Aside0.mk (Kd.V_below (by (with_reducible repeat (first | apply Kd.V_alloc | apply Kd.V_drewN | apply Kd.V_drew)); exact HO_298001.out) hb)
     have n1_ := Aside0.mk (Kd.V_below (by (with_reducible repeat (first | apply Kd.V_alloc | apply Kd.V_drewN | apply Kd.V_drew)); exact HO307.out) hb)
     have n2_ := Aside0.mk (Kd.V_below (by (with_reducible repeat (first | apply Kd.V_alloc | apply Kd.V_drewN | apply Kd.V_drew)); exact HO311.out) hb)
     have n3_ := Aside0.mk (Kd.V_below (by (with_reducible repeat (first | apply Kd.V_alloc | apply Kd.V_drewN | apply Kd.V_drew)); exact HO315.out) hb)
     have n4_ := Aside0.mk (Kd.V_below (by (with_reducible repeat (first | apply Kd.V_alloc | apply Kd.V_drewN | apply Kd.V_drew)); exact HO321.out) hb)
     have n5_ := Aside0.mk (Kd.V_lower (Kd.V_mono (ok' := fun k_ => k_ ≠ gb292 ∧ k_ ≠ gb297 ∧ k_ ≠ gb316 ∧ k_ ≠ gb317) ho0 (fun k_ hk_ => ⟨(Kd.freshB (g := gb292) (o := .cells #[.bool true, .slice A0_1 l0_1.length c0_1] 27 (0, 0)) (by (with_reducible repeat (first | refine blk_drewN ?_ _ | refine blk_drew ?_ | refine blk_alloc ?_ _)); exact BK292.out) k_ hk_), (Kd.freshB (g := gb297) (o := .cells #[.bool t293, .slice Ao10 t294.length co10] 27 (0, 0)) (by (with_reducible repeat (first | refine blk_drewN ?_ _ | refine blk_drew ?_ | refine blk_alloc ?_ _)); exact BK297.out) k_ hk_), (Kd.freshB (g := gb316) (o := .cells #[.bool t308, .slice Ao41 t309.length co41] 27 (0, 0)) (by (with_reducible repeat (first | refine blk_drewN ?_ _ | refine blk_drew ?_ | refine blk_alloc ?_ _)); exact BK316.out) k_ hk_), (Kd.freshB (g := gb317) (o := .cells #[.bool t312, .slice Ao44 t313.length co44] 27 (0, 0)) (by (with_reducible repeat (first | refine blk_drewN ?_ _ | refine blk_drew ?_ | refine blk_alloc ?_ _)); exact BK317.out) k_ hk_)⟩)) (below_size (by repeat (first | (with_reducible first | exact HB.out | apply below_alloc | apply pw_below_drewN | apply below_drew1 | refine below_set ?_ GE292.out | refine below_set ?_ GE297.out | refine below_set ?_ GE316.out | refine below_set ?_ GE317.out) | exact HB.out))))
     have n6_ := Aside0.mk (blk_below (g := gb292) (o := .cells #[.bool true, .slice A0_1 l0_1.length c0_1] 27 (0, 0)) (by (with_reducible repeat (first | refine blk_drewN ?_ _ | refine blk_drew ?_ | refine blk_alloc ?_ _)); exact BK292.out) hb)
     have n7_ := Aside0.mk (blk_below (g := gb297) (o := .cells #[.bool t293, .slice Ao10 t294.length co10] 27 (0, 0)) (by (with_reducible repeat (first | refine blk_drewN ?_ _ | refine blk_drew ?_ | refine blk_alloc ?_ _)); exact BK297.out) hb)
     have n8_ := Aside0.mk (blk_below (g := gb316) (o := .cells #[.bool t308, .slice Ao41 t309.length co41] 27 (0, 0)) (by (with_reducible repeat (first | refine blk_drewN ?_ _ | refine blk_drew ?_ | refine blk_alloc ?_ _)); exact BK316.out) hb)
     have n9_ := Aside0.mk (blk_below (g := gb317) (o := .cells #[.bool t312, .slice Ao44 t313.length co44] 27 (0, 0)) (by (with_reducible repeat (first | refine blk_drewN ?_ _ | refine blk_drew ?_ | refine blk_alloc ?_ _)); exact BK317.out) hb)
     have n10_ := Aside0.mk (below_step (by repeat (first | (with_reducible first | exact HB.out | apply below_alloc | apply pw_below_drewN | apply below_drew1 | refine below_set ?_ GE292.out | refine below_set ?_ GE297.out | refine below_set ?_ GE316.out | refine below_set ?_ GE317.out) | exact HB.out)) hb)
     clear HO_298001 HO307 HO311 HO315 HO321 BK292 BK297 BK316 BK317 HB
     have HO_298001 := n0_
     have HO307 := n1_
     have HO311 := n2_
     have HO315 := n3_
     have HO321 := n4_
     have HO325 := n5_
     have BK292 := n6_
     have BK297 := n7_
     have BK316 := n8_
     have BK317 := n9_
     have HB := n10_
     clear n0_ n1_ n2_ n3_ n4_ n5_ n6_ n7_ n8_ n9_ n10_
     (try clear hb)
     (try clear hb2)
     (try clear hk)
     (try clear hi)
     (try clear ho0)
     obtain ⟨Ao52, co52, eo52⟩ := Kd.V_slice HO325.out
     (first | subst eo52 | (injection eo52 with f1_ f2_ f3_; have f4_ := f1_.symm; have f5_ := f3_.symm; clear f1_ f2_ f3_; subst f4_; subst f5_))
     refine hK.out _ _ ⟨(blk_cell BK317.out 0).trans rfl, (blk_cell BK317.out 1).trans rfl⟩ (fun hHeld => ?_)
     clear hK K
     refine norm_ (a' := ?_) ?_ ?_
     rotate_left
     ·show Act.put _ (some 42) _ = _
      simp only [Act.put, List.setIfInBounds_toArray, List.set_cons_zero, List.set_cons_succ, i64_w, i32_w]
      rfl
     refine one_ (i := 5) (N := none) #[true, true, true, true, true, true] rfl rfl (by kernel_rfl) (by decide) (fun K hK => ?_)
     have hs51 : w50.cell? ⟨gb292, 0, none⟩ = some (.bool true) := (blk_cell BK292.out 0).trans rfl
     have hfs51 := blk_frozen BK292.out 0
     have hns51_1 := NB297_292.out
     have hns51_2 := NB316_292.out
     have hns51_3 := NB317_292.out
     have hms51_1 := NB292_297.out
     have hms51_2 := NB292_316.out
     have hms51_3 := NB292_317.out
     have hs53 : w50.cell? ⟨gb292, 1, none⟩ = some (.slice A0_1 l0_1.length c0_1) := (blk_cell BK292.out 1).trans rfl
     have hfs53 := blk_frozen BK292.out 1
     have hns53_1 := NB297_292.out
     have hns53_2 := NB316_292.out
     have hns53_3 := NB317_292.out
     have hms53_1 := NB292_297.out
     have hms53_2 := NB292_316.out
     have hms53_3 := NB292_317.out
     refine skip_ (w1 := ?_) (by rfl) rfl ?_ ?_
     rotate_left
     ·go_simp
      rfl
     refine hK.out _ _ ⟨((cell_far (p := ⟨gb292, _, none⟩) NB317_292.out _).trans (((cell_far (p := ⟨gb292, _, none⟩) NB317_292.out _).trans (hHeld.1)))), ((cell_far (p := ⟨gb292, _, none⟩) NB317_292.out _).trans (((cell_far (p := ⟨gb292, _, none⟩) NB317_292.out _).trans (hHeld.2))))⟩ (fun hHeld => ?_)
     clear hK K
     refine done_ (by kernel_rfl) ?_
     try go_wp2_with (first | ((with_reducible refine gate_dst (N := 44) rfl ?_); refine Kd.R_make (Kd.int .u64) _ 32 rfl (N := 44) rfl 22 _ _ rfl a1 rfl rfl Try.underlying22 (.int .u64 0) 8 info32 rfl (by decide) (by omega) 0 (ok := fun _ => True) (okp := fun _ => True) rfl (fun _ hk => hk) trivial (of_decide_eq_true (by first | (with_reducible assumption) | assumption)) (Nat.le_trans (Nat.mul_le_mul_right _ (of_decide_eq_true (by first | (with_reducible assumption) | assumption) : a1.toNat ≤ 35184372088832)) (by omega)) (Below.refl _ _) (Nat.le_refl _) ?_; intro v327 w54 ho55 hb hg_ hnew_; clear hg_ hnew_; (first | rw [← Ny326.out] at ho55 | (simp only [Int.reduceToNat] at ho55; rw [← Ny326.out] at ho55)); have n0_ := Aside0.mk (Kd.V_elder' (by (with_reducible repeat (first | apply Kd.V_alloc | apply Kd.V_drewN | apply Kd.V_drew)); exact (Kd.V_mono (Kd.V_far (p := ⟨gb292, 1, none⟩) (Kd.V_far (p := ⟨gb292, 0, none⟩) (Kd.V_mono HO_298001.out (fun k_ hk => (⟨hk, hk.1⟩ : _ ∧ k_ ≠ gb292))) (fun _ hk => hk.2) (.bool t322)) (fun _ hk => hk.2) (.slice Ao52 t323.length co52)) (fun _ h_ => h_.1))) (Kd.R_base ho55) hb); have n1_ := Aside0.mk (Kd.V_elder' (by (with_reducible repeat (first | apply Kd.V_alloc | apply Kd.V_drewN | apply Kd.V_drew)); exact (Kd.V_mono (Kd.V_far (p := ⟨gb292, 1, none⟩) (Kd.V_far (p := ⟨gb292, 0, none⟩) (Kd.V_mono HO307.out (fun k_ hk => (⟨hk, hk.1⟩ : _ ∧ k_ ≠ gb292))) (fun _ hk => hk.2) (.bool t322)) (fun _ hk => hk.2) (.slice Ao52 t323.length co52)) (fun _ h_ => h_.1))) (Kd.R_base ho55) hb); have n2_ := Aside0.mk (Kd.V_elder' (by (with_reducible repeat (first | apply Kd.V_alloc | apply Kd.V_drewN | apply Kd.V_drew)); exact (Kd.V_mono (Kd.V_far (p := ⟨gb292, 1, none⟩) (Kd.V_far (p := ⟨gb292, 0, none⟩) (Kd.V_mono HO311.out (fun k_ hk => (⟨hk, hk.1⟩ : _ ∧ k_ ≠ gb292))) (fun _ hk => hk.2) (.bool t322)) (fun _ hk => hk.2) (.slice Ao52 t323.length co52)) (fun _ h_ => h_.1))) (Kd.R_base ho55) hb); have n3_ := Aside0.mk (Kd.V_elder' (by (with_reducible repeat (first | apply Kd.V_alloc | apply Kd.V_drewN | apply Kd.V_drew)); exact (Kd.V_mono (Kd.V_far (p := ⟨gb292, 1, none⟩) (Kd.V_far (p := ⟨gb292, 0, none⟩) (Kd.V_mono HO315.out (fun k_ hk => (⟨hk, hk.1⟩ : _ ∧ k_ ≠ gb292))) (fun _ hk => hk.2) (.bool t322)) (fun _ hk => hk.2) (.slice Ao52 t323.length co52)) (fun _ h_ => h_.1))) (Kd.R_base ho55) hb); have n4_ := Aside0.mk (Kd.V_elder' (by (with_reducible repeat (first | apply Kd.V_alloc | apply Kd.V_drewN | apply Kd.V_drew)); exact (Kd.V_mono (Kd.V_far (p := ⟨gb292, 1, none⟩) (Kd.V_far (p := ⟨gb292, 0, none⟩) (Kd.V_mono HO321.out (fun k_ hk => (⟨hk, hk.1⟩ : _ ∧ k_ ≠ gb292))) (fun _ hk => hk.2) (.bool t322)) (fun _ hk => hk.2) (.slice Ao52 t323.length co52)) (fun _ h_ => h_.1))) (Kd.R_base ho55) hb); have n5_ := Aside0.mk (Kd.V_elder' (by (with_reducible repeat (first | apply Kd.V_alloc | apply Kd.V_drewN | apply Kd.V_drew)); exact (Kd.V_mono (Kd.V_far (p := ⟨gb292, 1, none⟩) (Kd.V_far (p := ⟨gb292, 0, none⟩) (Kd.V_mono HO325.out (fun k_ hk => (⟨hk, hk.1⟩ : _ ∧ k_ ≠ gb292))) (fun _ hk => hk.2) (.bool t322)) (fun _ hk => hk.2) (.slice Ao52 t323.length co52)) (fun _ h_ => h_.1))) (Kd.R_base ho55) hb); have n6_ := Aside0.mk (Kd.R_lower ho55 (below_size (by repeat (first | (with_reducible first | exact HB.out | apply below_alloc | apply pw_below_drewN | apply below_drew1 | refine below_set ?_ GE292.out | refine below_set ?_ GE297.out | refine below_set ?_ GE316.out | refine below_set ?_ GE317.out) | exact HB.out)))); have n7_ := Aside0.mk (blk_below (g := gb292) (o := .cells #[.bool t322, .slice Ao52 t323.length co52] 27 (0, 0)) (by (with_reducible repeat (first | refine blk_drewN ?_ _ | refine blk_drew ?_ | refine blk_alloc ?_ _)); refine blk_put (cs := #[.bool t322, .slice A0_1 l0_1.length c0_1]) ?_ 1 _ rfl; (with_reducible repeat (first | refine blk_drewN ?_ _ | refine blk_drew ?_ | refine blk_alloc ?_ _)); refine blk_put (cs := #[.bool true, .slice A0_1 l0_1.length c0_1]) ?_ 0 _ rfl; (with_reducible repeat (first | refine blk_drewN ?_ _ | refine blk_drew ?_ | refine blk_alloc ?_ _)); exact BK292.out) hb); have n8_ := Aside0.mk (blk_below (g := gb297) (o := .cells #[.bool t293, .slice Ao10 t294.length co10] 27 (0, 0)) (by (with_reducible repeat (first | refine blk_drewN ?_ _ | refine blk_drew ?_ | refine blk_alloc ?_ _)); refine blk_far ?_ NB297_292.out _; (with_reducible repeat (first | refine blk_drewN ?_ _ | refine blk_drew ?_ | refine blk_alloc ?_ _)); refine blk_far ?_ NB297_292.out _; (with_reducible repeat (first | refine blk_drewN ?_ _ | refine blk_drew ?_ | refine blk_alloc ?_ _)); exact BK297.out) hb); have n9_ := Aside0.mk (blk_below (g := gb316) (o := .cells #[.bool t308, .slice Ao41 t309.length co41] 27 (0, 0)) (by (with_reducible repeat (first | refine blk_drewN ?_ _ | refine blk_drew ?_ | refine blk_alloc ?_ _)); refine blk_far ?_ NB316_292.out _; (with_reducible repeat (first | refine blk_drewN ?_ _ | refine blk_drew ?_ | refine blk_alloc ?_ _)); refine blk_far ?_ NB316_292.out _; (with_reducible repeat (first | refine blk_drewN ?_ _ | refine blk_drew ?_ | refine blk_alloc ?_ _)); exact BK316.out) hb); have n10_ := Aside0.mk (blk_below (g := gb317) (o := .cells #[.bool t312, .slice Ao44 t313.length co44] 27 (0, 0)) (by (with_reducible repeat (first | refine blk_drewN ?_ _ | refine blk_drew ?_ | refine blk_alloc ?_ _)); refine blk_far ?_ NB317_292.out _; (with_reducible repeat (first | refine blk_drewN ?_ _ | refine blk_drew ?_ | refine blk_alloc ?_ _)); refine blk_far ?_ NB317_292.out _; (with_reducible repeat (first | refine blk_drewN ?_ _ | refine blk_drew ?_ | refine blk_alloc ?_ _)); exact BK317.out) hb); have n11_ := Aside0.mk (below_step (by repeat (first | (with_reducible first | exact HB.out | apply below_alloc | apply pw_below_drewN | apply below_drew1 | refine below_set ?_ GE292.out | refine below_set ?_ GE297.out | refine below_set ?_ GE316.out | refine below_set ?_ GE317.out) | exact HB.out)) hb); clear HO_298001; clear HO307; clear HO311; clear HO315; clear HO321; clear HO325; clear BK292; clear BK297; clear BK316; clear BK317; clear HB; have HO_298001 := n0_; have HO307 := n1_; have HO311 := n2_; have HO315 := n3_; have HO321 := n4_; have HO325 := n5_; have HO328 := n6_; have BK292 := n7_; have BK297 := n8_; have BK316 := n9_; have BK317 := n10_; have HB := n11_; clear n0_ n1_ n2_ n3_ n4_ n5_ n6_ n7_ n8_ n9_ n10_ n11_; clear hb ho55; obtain ⟨Ao56, co56, eo56⟩ := Kd.R_slice HO328.out; subst eo56))
     go_loopg [47] kj3 (fun kq v47 w' => ∃ (x10_2 : List Int) (x47_2 : Int), v47 = .int .i64 x47_2 ∧ Aside0 (spec_ToWords.l0 kq x7_3 x10_2 (y326.length : Int) x47_2 t322 t323 = some (r1, r2)) ∧ Aside0 (kq ≤ kj3) ∧ Aside0 (Kd.R (Kd.int .u64) 32 w' w.heap.size (fun _ => True) (.slice Ao56 y326.length co56) x10_2) ∧ Aside0 (Kd.V (Kd.int .u32) 44 w' w.heap.size (fun k_ => some k_ ≠ ((.slice Ao56 y326.length co56) : Value).ownBlock ∧ k_ ≠ gb292 ∧ k_ ≠ gb297 ∧ k_ ≠ gb316 ∧ k_ ≠ gb317) (.slice Ao52 t323.length co52) t323) ∧ Aside0 (Kd.V (Kd.int .u32) 44 w' w.heap.size (fun k_ => some k_ ≠ ((.slice Ao56 y326.length co56) : Value).ownBlock ∧ k_ ≠ gb292 ∧ k_ ≠ gb297 ∧ k_ ≠ gb316 ∧ k_ ≠ gb317) (.slice Ao10 t294.length co10) t294) ∧ Aside0 (Kd.V (Kd.int .u32) 44 w' w.heap.size (fun k_ => some k_ ≠ ((.slice Ao56 y326.length co56) : Value).ownBlock ∧ k_ ≠ gb292 ∧ k_ ≠ gb297 ∧ k_ ≠ gb316 ∧ k_ ≠ gb317) (.slice Ao41 t309.length co41) t309) ∧ Aside0 (Kd.V (Kd.int .u32) 44 w' w.heap.size (fun k_ => some k_ ≠ ((.slice Ao56 y326.length co56) : Value).ownBlock ∧ k_ ≠ gb292 ∧ k_ ≠ gb297 ∧ k_ ≠ gb316 ∧ k_ ≠ gb317) (.slice Ao44 t313.length co44) t313) ∧ Aside0 (w'.heap[gb292]? = some (.cells #[.bool t322, (.slice Ao52 t323.length co52)] 27 (0, 0))) ∧ Aside0 (w'.heap[gb297]? = some (.cells #[.bool t293, (.slice Ao10 t294.length co10)] 27 (0, 0))) ∧ Aside0 (w'.heap[gb316]? = some (.cells #[.bool t308, (.slice Ao41 t309.length co41)] 27 (0, 0))) ∧ Aside0 (w'.heap[gb317]? = some (.cells #[.bool t312, (.slice Ao44 t313.length co44)] 27 (0, 0))) ∧ Aside0 (Below w.heap.size w w'))
     case atStart => exact ⟨(y326), (0), (by first | rfl | (simp; done) | (simp [*]; done)), H', ⟨Nat.le_refl _⟩, ⟨by (with_reducible repeat (first | apply Kd.R_alloc | apply Kd.R_drewN | apply Kd.R_drew)); exact HO328.out⟩, ⟨by (with_reducible repeat (first | apply Kd.V_alloc | apply Kd.V_drewN | apply Kd.V_drew)); exact Kd.V_mono HO325.out (fun _ hk => ⟨hk.2, ⟨hk.1.1, ⟨hk.1.2.1, ⟨hk.1.2.2.1, hk.1.2.2.2⟩⟩⟩⟩)⟩, ⟨by (with_reducible repeat (first | apply Kd.V_alloc | apply Kd.V_drewN | apply Kd.V_drew)); exact Kd.V_mono HO_298001.out (fun _ hk => ⟨hk.2, ⟨hk.1.1, ⟨hk.1.2.1, ⟨hk.1.2.2.1, hk.1.2.2.2⟩⟩⟩⟩)⟩, ⟨by (with_reducible repeat (first | apply Kd.V_alloc | apply Kd.V_drewN | apply Kd.V_drew)); exact Kd.V_mono HO311.out (fun _ hk => ⟨hk.2, ⟨hk.1.1, ⟨hk.1.2.1, ⟨hk.1.2.2.1, hk.1.2.2.2⟩⟩⟩⟩)⟩, ⟨by (with_reducible repeat (first | apply Kd.V_alloc | apply Kd.V_drewN | apply Kd.V_drew)); exact Kd.V_mono HO315.out (fun _ hk => ⟨hk.2, ⟨hk.1.1, ⟨hk.1.2.1, ⟨hk.1.2.2.1, hk.1.2.2.2⟩⟩⟩⟩)⟩, ⟨by (with_reducible repeat (first | refine blk_drewN ?_ _ | refine blk_drew ?_ | refine blk_alloc ?_ _)); exact BK292.out⟩, ⟨by (with_reducible repeat (first | refine blk_drewN ?_ _ | refine blk_drew ?_ | refine blk_alloc ?_ _)); exact BK297.out⟩, ⟨by (with_reducible repeat (first | refine blk_drewN ?_ _ | refine blk_drew ?_ | refine blk_alloc ?_ _)); exact BK316.out⟩, ⟨by (with_reducible repeat (first | refine blk_drewN ?_ _ | refine blk_drew ?_ | refine blk_alloc ?_ _)); exact BK317.out⟩, ⟨by repeat (first | (with_reducible first | exact HB.out | apply below_alloc | apply pw_below_drewN | apply below_drew1 | refine below_set ?_ GE292.out | refine below_set ?_ GE297.out | refine below_set ?_ GE316.out | refine below_set ?_ GE317.out) | exact HB.out)⟩⟩
     case round =>
      clear H'
      try clear c1
      try clear p2
      try clear c3
      try clear p6
      try clear c16
      try clear c36
      try clear c39
      obtain ⟨x10_2, x47_2, rfl, HA, HK2, HO_10, HO_293001, HO_298001, HO_317001, HO_318001, BK292, BK297, BK316, BK317, HB⟩ := hrel
      have hl10_2 := (Kd.R_reads' HO_10.out).1
      rw [hl10_2] at HO_10
      (try simp only [hl10_2])
      (try simp only [hl10_2] at BK292)
      (try simp only [hl10_2] at BK297)
      (try simp only [hl10_2] at BK316)
      (try simp only [hl10_2] at BK317)
      (try simp only [hl10_2] at HO_293001)
      (try simp only [hl10_2] at HO_298001)
      (try simp only [hl10_2] at HO_317001)
      (try simp only [hl10_2] at HO_318001)
      cases gk with
      | zero => exact absurd HA.out (by simp [spec_ToWords.l0])
      | succ k2 =>
       have H := HA.out
       clear HA
       simp only [spec_ToWords.l0] at H
       by_cases c57 : x47_2 < (y326.length : Int)
       ·rw [if_pos c57] at H
        have c57b0 : decide (x47_2 < (y326.length : Int)) = true := decide_eq_true c57
        rw [hl10_2] at c57b0
        clear c57
        have H' := Aside0.mk H
        clear H
        go_wp2
        go_loopg [12] k2 (fun kq v12 w' => ∃ (x10_3 : List Int) (x12_3 : Int), v12 = .int .i64 x12_3 ∧ Aside0 (spec_ToWords.l1 kq x7_3 x10_3 x47_2 x12_3 (y326.length : Int) x47_2 t322 t323 = some (r1, r2)) ∧ Aside0 (kq ≤ k2) ∧ Aside0 (Kd.R (Kd.int .u64) 32 w' w.heap.size (fun _ => True) (.slice Ao56 x10_2.length co56) x10_3) ∧ Aside0 (Kd.V (Kd.int .u32) 44 w' w.heap.size (fun k_ => some k_ ≠ ((.slice Ao56 x10_2.length co56) : Value).ownBlock ∧ k_ ≠ gb292 ∧ k_ ≠ gb297 ∧ k_ ≠ gb316 ∧ k_ ≠ gb317) (.slice Ao52 t323.length co52) t323) ∧ Aside0 (Kd.V (Kd.int .u32) 44 w' w.heap.size (fun k_ => some k_ ≠ ((.slice Ao56 x10_2.length co56) : Value).ownBlock ∧ k_ ≠ gb292 ∧ k_ ≠ gb297 ∧ k_ ≠ gb316 ∧ k_ ≠ gb317) (.slice Ao10 t294.length co10) t294) ∧ Aside0 (Kd.V (Kd.int .u32) 44 w' w.heap.size (fun k_ => some k_ ≠ ((.slice Ao56 x10_2.length co56) : Value).ownBlock ∧ k_ ≠ gb292 ∧ k_ ≠ gb297 ∧ k_ ≠ gb316 ∧ k_ ≠ gb317) (.slice Ao41 t309.length co41) t309) ∧ Aside0 (Kd.V (Kd.int .u32) 44 w' w.heap.size (fun k_ => some k_ ≠ ((.slice Ao56 x10_2.length co56) : Value).ownBlock ∧ k_ ≠ gb292 ∧ k_ ≠ gb297 ∧ k_ ≠ gb316 ∧ k_ ≠ gb317) (.slice Ao44 t313.length co44) t313) ∧ Aside0 (w'.heap[gb292]? = some (.cells #[.bool t322, (.slice Ao52 t323.length co52)] 27 (0, 0))) ∧ Aside0 (w'.heap[gb297]? = some (.cells #[.bool t293, (.slice Ao10 t294.length co10)] 27 (0, 0))) ∧ Aside0 (w'.heap[gb316]? = some (.cells #[.bool t308, (.slice Ao41 t309.length co41)] 27 (0, 0))) ∧ Aside0 (w'.heap[gb317]? = some (.cells #[.bool t312, (.slice Ao44 t313.length co44)] 27 (0, 0))) ∧ Aside0 (Below w.heap.size w w'))
        case atStart => exact ⟨(x10_2), (0), (by first | rfl | (simp; done) | (simp [*]; done)), H', ⟨Nat.le_refl _⟩, ⟨by (try simp only [hl10_2]); (with_reducible repeat (first | apply Kd.R_alloc | apply Kd.R_drewN | apply Kd.R_drew)); exact HO_10.out⟩, ⟨by (try simp only [hl10_2]); (with_reducible repeat (first | apply Kd.V_alloc | apply Kd.V_drewN | apply Kd.V_drew)); exact HO_293001.out⟩, ⟨by (try simp only [hl10_2]); (with_reducible repeat (first | apply Kd.V_alloc | apply Kd.V_drewN | apply Kd.V_drew)); exact HO_298001.out⟩, ⟨by (try simp only [hl10_2]); (with_reducible repeat (first | apply Kd.V_alloc | apply Kd.V_drewN | apply Kd.V_drew)); exact HO_317001.out⟩, ⟨by (try simp only [hl10_2]); (with_reducible repeat (first | apply Kd.V_alloc | apply Kd.V_drewN | apply Kd.V_drew)); exact HO_318001.out⟩, ⟨by (try simp only [hl10_2]); (with_reducible repeat (first | refine blk_drewN ?_ _ | refine blk_drew ?_ | refine blk_alloc ?_ _)); exact BK292.out⟩, ⟨by (try simp only [hl10_2]); (with_reducible repeat (first | refine blk_drewN ?_ _ | refine blk_drew ?_ | refine blk_alloc ?_ _)); exact BK297.out⟩, ⟨by (try simp only [hl10_2]); (with_reducible repeat (first | refine blk_drewN ?_ _ | refine blk_drew ?_ | refine blk_alloc ?_ _)); exact BK316.out⟩, ⟨by (try simp only [hl10_2]); (with_reducible repeat (first | refine blk_drewN ?_ _ | refine blk_drew ?_ | refine blk_alloc ?_ _)); exact BK317.out⟩, ⟨by repeat (first | (with_reducible first | exact HB.out | apply below_alloc | apply pw_below_drewN | apply below_drew1 | refine below_set ?_ GE292.out | refine below_set ?_ GE297.out | refine below_set ?_ GE316.out | refine below_set ?_ GE317.out) | exact HB.out)⟩⟩
        case round =>
         clear H'
         try clear c1
         try clear p2
         try clear c3
         try clear c5
         try clear p6
         try clear c16
         try clear c36
         try clear c39
         try clear c57
         try clear c57b0
         try clear p2
         try clear p6
         obtain ⟨x10_3, x12_3, rfl, HA, HK3, HO_10, HO_293001, HO_298001, HO_317001, HO_318001, BK292, BK297, BK316, BK317, HB⟩ := hrel
         have hl10_3 := (Kd.R_reads' HO_10.out).1
         rw [hl10_3] at HO_10
         (try simp only [hl10_3])
         (try simp only [hl10_3] at BK292)
         (try simp only [hl10_3] at BK297)
         (try simp only [hl10_3] at BK316)
         (try simp only [hl10_3] at BK317)
         (try simp only [hl10_3] at HO_293001)
         (try simp only [hl10_3] at HO_298001)
         (try simp only [hl10_3] at HO_317001)
         (try simp only [hl10_3] at HO_318001)
         cases gk with
         | zero => exact absurd HA.out (by simp [spec_ToWords.l1])
         | succ k3 =>
          have H := HA.out
          clear HA
          simp only [spec_ToWords.l1] at H
          by_cases c58 : x12_3 < 2
          ·rw [if_pos c58] at H
           have c58b0 : decide (x12_3 < 2) = true := decide_eq_true c58
           clear c58
           by_cases c59 : (wrap64 ((wrap64 (2 * x47_2)) + x12_3)) < (t323.length : Int)
           ·rw [if_pos c59] at H
            have c59b0 : decide ((wrap64 ((wrap64 (2 * x47_2)) + x12_3)) < (t323.length : Int)) = true := decide_eq_true c59
            clear c59
            by_cases c60 : 0 ≤ x47_2
            ·rw [if_pos c60] at H
             have c60b0 : decide (0 ≤ x47_2) = true := decide_eq_true c60
             clear c60
             by_cases c61 : x47_2 < (x10_3.length : Int)
             ·rw [if_pos c61] at H
              have c61b0 : decide (x47_2 < (x10_3.length : Int)) = true := decide_eq_true c61
              clear c61
              obtain ⟨ji62, hji62⟩ : ∃ j_ : Int, (wrap64 ((wrap64 (2 * x47_2)) + x12_3)) = j_ := ⟨_, rfl⟩
              replace H : (if 0 ≤ (ji62) then (if 0 ≤ (wrap64 (32 * x12_3)) then (spec_ToWords.l1 k3 x7_3 (x10_3.set (x47_2 : Int).toNat (Go.bits .or .u64 (rd x10_3 x47_2) (shl .u64 (IntKind.u64.wrap (rd t323 (ji62))) (wrap64 (32 * x12_3))))) x47_2 (wrap64 (x12_3 + 1)) (y326.length : Int) x47_2 t322 t323) else (none)) else (none)) = some (r1, r2) := by first | (rw [hji62] at H; exact H) | (simp only [hji62] at H ⊢; exact H)
              (try rw [hji62] at c59b0)
              have hji62w : (IntKind.i64.wrap ((wrap64 (2 * x47_2)) + x12_3)) = ji62 := (i64_w _).trans hji62
              by_cases c63 : 0 ≤ (ji62)
              ·rw [if_pos c63] at H
               have c63b0 : decide (0 ≤ (ji62)) = true := decide_eq_true c63
               clear c63
               obtain ⟨ji64, hji64⟩ : ∃ j_ : Int, (wrap64 (32 * x12_3)) = j_ := ⟨_, rfl⟩
               replace H : (if 0 ≤ (ji64) then (spec_ToWords.l1 k3 x7_3 (x10_3.set (x47_2 : Int).toNat (Go.bits .or .u64 (rd x10_3 x47_2) (shl .u64 (IntKind.u64.wrap (rd t323 (ji62))) (ji64)))) x47_2 (wrap64 (x12_3 + 1)) (y326.length : Int) x47_2 t322 t323) else (none)) = some (r1, r2) := by first | (rw [hji64] at H; exact H) | (simp only [hji64] at H ⊢; exact H)
               have hji64w : (IntKind.i64.wrap (32 * x12_3)) = ji64 := (i64_w _).trans hji64
               by_cases c65 : 0 ≤ (ji64)
               ·rw [if_pos c65] at H
                have c65b0 := eq_true c65
                have c65b1 : decide (0 ≤ (ji64)) = true := decide_eq_true c65
                clear c65
                obtain ⟨ji66, hji66⟩ : ∃ j_ : Int, (shl .u64 (IntKind.u64.wrap (rd t323 (ji62))) (ji64)) = j_ := ⟨_, rfl⟩
                replace H : (spec_ToWords.l1 k3 x7_3 (x10_3.set (x47_2 : Int).toNat (Go.bits .or .u64 (rd x10_3 x47_2) (ji66))) x47_2 (wrap64 (x12_3 + 1)) (y326.length : Int) x47_2 t322 t323) = some (r1, r2) := by first | (rw [hji66] at H; exact H) | (simp only [hji66] at H ⊢; exact H)
                have hji66_ : (IntKind.u64.wrap ((IntKind.u64.wrap (rd t323 (ji62))) * 2 ^ min (ji64).toNat 64)) = ji66 := hji66
                have hji66z : (ji64) ≤ 64 → (IntKind.u64.wrap ((IntKind.u64.wrap (rd t323 (ji62))) * 2 ^ (ji64).toNat)) = ji66 := shl_small hji66
                obtain ⟨y331, hy331⟩ : ∃ y_ : List Int, y_ = (x10_3.set (x47_2 : Int).toNat (Go.bits .or .u64 (rd x10_3 x47_2) (ji66))) := ⟨_, rfl⟩
                replace H : (spec_ToWords.l1 k3 x7_3 y331 x47_2 (wrap64 (x12_3 + 1)) (y326.length : Int) x47_2 t322 t323) = some (r1, r2) := by first | (rw [hy331]; with_reducible exact H) | (have H2_ := (Option.bind_some _ _).symm.trans H; rw [hy331]; with_reducible exact H2_) | (have H2_ := (Option.bind_some _ _).symm.trans H; with_reducible exact H2_) | with_reducible exact H | (rw [hy331]; exact H) | exact H
                have Ny331 := Aside0.mk hy331
                clear hy331
                have H' := Aside0.mk H
                clear H
                have hnb68 := NB292_297.out
                have hnc68 := NB297_292.out
                have hnb69 := NB292_316.out
                have hnc69 := NB316_292.out
                have hnb70 := NB292_317.out
                have hnc70 := NB317_292.out
                have hcz71_0 : wr.cell? ⟨gb292, 0, none⟩ = some (.bool t322) := (blk_cell BK292.out 0).trans rfl
                have hcz71_1 : wr.cell? ⟨gb292, 1, none⟩ = some (.slice Ao52 t323.length co52) := (blk_cell BK292.out 1).trans rfl
                have hfz71_0 := blk_frozen BK292.out 0
                have hfz71_1 := blk_frozen BK292.out 1
                try go_wp2
                have n0_ := Aside0.mk (Kd.R_drew HO_10.out)
                have n1_ := Aside0.mk (Kd.V_drew HO_293001.out)
                have n2_ := Aside0.mk (Kd.V_drew HO_298001.out)
                have n3_ := Aside0.mk (Kd.V_drew HO_317001.out)
                have n4_ := Aside0.mk (Kd.V_drew HO_318001.out)
                have n5_ := Aside0.mk (blk_drew BK292.out)
                have n6_ := Aside0.mk (blk_drew BK297.out)
                have n7_ := Aside0.mk (blk_drew BK316.out)
                have n8_ := Aside0.mk (blk_drew BK317.out)
                have n9_ := Aside0.mk (below_drew1 HB.out)
                clear HO_10 HO_293001 HO_298001 HO_317001 HO_318001 BK292 BK297 BK316 BK317 HB
                have HO_10 := n0_
                have HO_293001 := n1_
                have HO_298001 := n2_
                have HO_317001 := n3_
                have HO_318001 := n4_
                have BK292 := n5_
                have BK297 := n6_
                have BK316 := n7_
                have BK317 := n8_
                have HB := n9_
                clear n0_ n1_ n2_ n3_ n4_ n5_ n6_ n7_ n8_ n9_
                have p329 : 0 ≤ (x47_2 : Int) := of_decide_eq_true (by first | (with_reducible assumption) | assumption)
                have q329 : x47_2 < (x10_3.length : Int) := of_decide_eq_true (by first | (with_reducible assumption) | assumption)
                obtain ⟨ad329, e329, hx329_0⟩ := Kd.at_int (Kd.R_reads' HO_10.out).2.2 x47_2 p329 q329
                cases e329
                replace p329 := eq_true p329
                replace q329 := eq_true q329
                have p330 : 0 ≤ ((ji62) : Int) := of_decide_eq_true (by first | (with_reducible assumption) | assumption)
                have q330 : (ji62) < (t323.length : Int) := of_decide_eq_true (by first | (with_reducible assumption) | assumption)
                obtain ⟨ad330, e330, hx330_0⟩ := Kd.at_int (Kd.V_reads' HO_293001.out).2.2 (ji62) p330 q330
                cases e330
                replace p330 := eq_true p330
                replace q330 := eq_true q330
                have p67 : 0 ≤ (x47_2 : Int) := of_decide_eq_true (by first | (with_reducible assumption) | assumption)
                have q67 : (x47_2 : Int) < ((x10_3.length : Int) : Int) := of_decide_eq_true (by first | (with_reducible assumption) | assumption)
                obtain ⟨go67, co67, eo67, gb67, gl67, cl67, HG67⟩ := Kd.R_form HO_10.out (by omega)
                (first | cases eo67 | (injection eo67 with ea_ en_ ec_; (first | subst ea_ | (injection ea_ with ea_; subst ea_)); subst ec_; clear en_))
                have GB67 := Aside0.mk gb67
                have GG67 := Aside0.mk HG67
                clear gb67 gl67 HG67
                (first | simp only [add_plain] at hx329_0 | skip)
                obtain ⟨hx67_0, hf67_0⟩ := Kd.R_celln 0 HO_10.out (x47_2 : Int) p67 q67
                replace p67 := eq_true p67
                replace q67 := eq_true q67
                have HP73 := Kd.R_putn HO_10.out (x47_2 : Int) (Go.bits .or .u64 (rd x10_3 x47_2) (ji66))
                rw [← Ny331.out] at HP73
                have HQ73 := Aside0.mk HP73
                clear HP73
                refine start_ (n := 19) (S := fun w' => w'.cell? ⟨gb292, 0, none⟩ = some (.bool t322) ∧ w'.cell? ⟨gb292, 1, none⟩ = some (.slice (some ad330) t323.length co52) ∧ w'.cell? ⟨go67, (x47_2).toNat, none⟩ = some (.int .u64 (rd x10_3 x47_2)) ∧ w'.cell? (ad330.add ((ji62)).toNat) = some (.int .u32 (rd t323 (ji62)))) (ds := [18]) #[false, false, false, false, false, false, false, false, false, false, false, false, false, false, false, false, false, false, false] (by kernel_rfl) rfl rfl ⟨(blk_cell BK292.out 0).trans rfl, (blk_cell BK292.out 1).trans rfl, hx329_0, hx330_0⟩ (fun hHeld => ?_); refine with_tabW spec_ToWords.tab14 spec_ToWords.bits14 (fun HT_ HW_ => ?_)
                generalize wr.drew = w72 at HO_10 HO_293001 HO_298001 HO_317001 HO_318001 BK292 BK297 BK316 BK317 HB GG67 HQ73 hf67_0 hx329_0 hx330_0 hx67_0 hHeld ⊢
                refine pure_ (i := 0) (N := some 62) (v := ?_) (a' := ?_) #[true, false, false, false, false, false, false, false, false, false, false, false, false, false, false, false, false, false, false] rfl rfl (any_of HT_.out (by kernel_rfl)) (fun _ _ _ h => h) (Or.inl ⟨by rfl, ?_⟩) ?_ ?_
                rotate_left
                ·intro w'
                 go_simp
                 with_reducible rfl
                rotate_left
                ·simp only [Act.put, List.setIfInBounds_toArray, List.set_cons_zero, List.set_cons_succ, i64_w, i32_w]
                 rfl
                refine pure_ (i := 1) (N := some 63) (v := ?_) (a' := ?_) #[true, true, false, false, false, false, false, false, false, false, false, false, false, false, false, false, false, false, false] rfl rfl (any_of HT_.out (by kernel_rfl)) (fun _ _ _ h => h) (Or.inl ⟨by rfl, ?_⟩) ?_ ?_
                rotate_left
                ·intro w'
                 go_simp
                 with_reducible rfl
                rotate_left
                ·simp only [Act.put, List.setIfInBounds_toArray, List.set_cons_zero, List.set_cons_succ, i64_w, i32_w]
                 rfl
                refine pure_ (i := 2) (N := some 64) (v := ?_) (a' := ?_) #[true, true, true, false, false, false, false, false, false, false, false, false, false, false, false, false, false, false, false] rfl rfl (any_of HT_.out (by kernel_rfl)) (fun _ _ _ h => h) (Or.inl ⟨by rfl, ?_⟩) ?_ ?_
                rotate_left
                ·intro w'
                 go_simp
                 with_reducible rfl
                rotate_left
                ·simp only [Act.put, List.setIfInBounds_toArray, List.set_cons_zero, List.set_cons_succ, i64_w, i32_w]
                 rfl
                refine pure_ (i := 4) (N := some 66) (v := ?_) (a' := ?_) #[true, true, true, false, true, false, false, false, false, false, false, false, false, false, false, false, false, false, false] rfl rfl (any_of HT_.out (by kernel_rfl)) (fun _ _ _ h => h) (Or.inl ⟨by rfl, ?_⟩) ?_ ?_
                rotate_left
                ·intro w'
                 go_simp
                 with_reducible rfl
                rotate_left
                ·simp only [Act.put, List.setIfInBounds_toArray, List.set_cons_zero, List.set_cons_succ, i64_w, i32_w]
                 rfl
                refine pure_ (i := 6) (N := some 68) (v := ?_) (a' := ?_) #[true, true, true, false, true, false, true, false, false, false, false, false, false, false, false, false, false, false, false] rfl rfl (any_of HT_.out (by kernel_rfl)) (fun _ _ _ h => h) (Or.inl ⟨by rfl, ?_⟩) ?_ ?_
                rotate_left
                ·intro w'
                 go_simp
                 with_reducible rfl
                rotate_left
                ·simp only [Act.put, List.setIfInBounds_toArray, List.set_cons_zero, List.set_cons_succ, i64_w, i32_w]
                 rfl
                refine pure_ (i := 7) (N := some 69) (v := ?_) (a' := ?_) #[true, true, true, false, true, false, true, true, false, false, false, false, false, false, false, false, false, false, false] rfl rfl (any_of HT_.out (by kernel_rfl)) (fun _ _ _ h => h) (Or.inl ⟨by rfl, ?_⟩) ?_ ?_
                rotate_left
                ·intro w'
                 go_simp
                 with_reducible rfl
                rotate_left
                ·simp only [Act.put, List.setIfInBounds_toArray, List.set_cons_zero, List.set_cons_succ, i64_w, i32_w]
                 rfl
                refine pure_ (i := 8) (N := some 70) (v := ?_) (a' := ?_) #[true, true, true, false, true, false, true, true, true, false, false, false, false, false, false, false, false, false, false] rfl rfl (any_of HT_.out (by kernel_rfl)) (fun _ _ _ h => h) (Or.inl ⟨by rfl, ?_⟩) ?_ ?_
                rotate_left
                ·intro w'
                 go_simp
                 with_reducible rfl
                rotate_left
                ·simp only [Act.put, List.setIfInBounds_toArray, List.set_cons_zero, List.set_cons_succ, i64_w, i32_w]
                 rfl
                refine pure_ (i := 9) (N := some 71) (v := ?_) (a' := ?_) #[true, true, true, false, true, false, true, true, true, true, false, false, false, false, false, false, false, false, false] rfl rfl (any_of HT_.out (by kernel_rfl)) (fun _ _ _ h => h) (Or.inl ⟨by rfl, ?_⟩) ?_ ?_
                rotate_left
                ·intro w'
                 go_simp
                 with_reducible rfl
                rotate_left
                ·simp only [Act.put, List.setIfInBounds_toArray, List.set_cons_zero, List.set_cons_succ, i64_w, i32_w]
                 rfl
                refine pure_ (i := 13) (N := some 75) (v := ?_) (a' := ?_) #[true, true, true, false, true, false, true, true, true, true, false, false, false, true, false, false, false, false, false] rfl rfl (any_of HT_.out (by kernel_rfl)) (fun _ _ _ h => h) (Or.inl ⟨by rfl, ?_⟩) ?_ ?_
                rotate_left
                ·intro w'
                 go_simp
                 with_reducible rfl
                rotate_left
                ·simp only [Act.put, List.setIfInBounds_toArray, List.set_cons_zero, List.set_cons_succ, i64_w, i32_w]
                 rfl
                refine pure_ (i := 14) (N := some 76) (v := ?_) (a' := ?_) #[true, true, true, false, true, false, true, true, true, true, false, false, false, true, true, false, false, false, false] rfl rfl (any_of HT_.out (by kernel_rfl)) (fun _ _ _ h => h) (Or.inl ⟨by rfl, ?_⟩) ?_ ?_
                rotate_left
                ·intro w'
                 go_simp
                 with_reducible rfl
                rotate_left
                ·simp only [Act.put, List.setIfInBounds_toArray, List.set_cons_zero, List.set_cons_succ, i64_w, i32_w]
                 rfl
                refine take_ (i := 3) (N := some 65) (v := ?_) (a' := ?_) #[true, true, true, true, true, false, true, true, true, true, false, false, false, true, true, false, false, false, false] rfl rfl (take_ofW HT_.out HW_.out (by kernel_rfl)) (fun _ _ _ h => h) (Or.inl ⟨by rfl, ?_⟩) hHeld ?_ ?_
                rotate_left
                ·rintro w' ⟨s0, s1, s2, s3⟩
                 go_simp
                 with_reducible rfl
                rotate_left
                ·simp only [Act.put, List.setIfInBounds_toArray, List.set_cons_zero, List.set_cons_succ, i64_w, i32_w]
                 rfl
                refine take_ (i := 5) (N := some 67) (v := ?_) (a' := ?_) #[true, true, true, true, true, true, true, true, true, true, false, false, false, true, true, false, false, false, false] rfl rfl (take_ofW HT_.out HW_.out (by kernel_rfl)) (fun _ _ _ h => h) (Or.inl ⟨by rfl, ?_⟩) hHeld ?_ ?_
                rotate_left
                ·rintro w' ⟨s0, s1, s2, s3⟩
                 go_simp
                 with_reducible rfl
                rotate_left
                ·simp only [Act.put, List.setIfInBounds_toArray, List.set_cons_zero, List.set_cons_succ, i64_w, i32_w]
                 rfl
                refine pure_ (i := 10) (N := some 72) (v := ?_) (a' := ?_) #[true, true, true, true, true, true, true, true, true, true, true, false, false, true, true, false, false, false, false] rfl rfl (any_of HT_.out (by kernel_rfl)) (fun _ _ _ h => h) (Or.inl ⟨by rfl, ?_⟩) ?_ ?_
                rotate_left
                ·intro w'
                 go_simp
                 with_reducible rfl
                rotate_left
                ·simp only [Act.put, List.setIfInBounds_toArray, List.set_cons_zero, List.set_cons_succ, i64_w, i32_w]
                 rfl
                refine take_ (i := 11) (N := some 73) (v := ?_) (a' := ?_) #[true, true, true, true, true, true, true, true, true, true, true, true, false, true, true, false, false, false, false] rfl rfl (take_ofW HT_.out HW_.out (by kernel_rfl)) (fun _ _ _ h => h) (Or.inl ⟨by rfl, ?_⟩) hHeld ?_ ?_
                rotate_left
                ·rintro w' ⟨s0, s1, s2, s3⟩
                 go_simp
                 with_reducible rfl
                rotate_left
                ·simp only [Act.put, List.setIfInBounds_toArray, List.set_cons_zero, List.set_cons_succ, i64_w, i32_w]
                 rfl
                refine pure_ (i := 12) (N := some 74) (v := ?_) (a' := ?_) #[true, true, true, true, true, true, true, true, true, true, true, true, true, true, true, false, false, false, false] rfl rfl (any_of HT_.out (by kernel_rfl)) (fun _ _ _ h => h) (Or.inl ⟨by rfl, ?_⟩) ?_ ?_
                rotate_left
                ·intro w'
                 go_simp
                 with_reducible rfl
                rotate_left
                ·simp only [Act.put, List.setIfInBounds_toArray, List.set_cons_zero, List.set_cons_succ, i64_w, i32_w]
                 rfl
                refine pure_ (i := 15) (N := some 77) (v := ?_) (a' := ?_) #[true, true, true, true, true, true, true, true, true, true, true, true, true, true, true, true, false, false, false] rfl rfl (any_of HT_.out (by kernel_rfl)) (fun _ _ _ h => h) (Or.inl ⟨by rfl, ?_⟩) ?_ ?_
                rotate_left
                ·intro w'
                 go_simp
                 with_reducible rfl
                rotate_left
                ·simp only [Act.put, List.setIfInBounds_toArray, List.set_cons_zero, List.set_cons_succ, i64_w, i32_w]
                 rfl
                refine pure_ (i := 16) (N := some 78) (v := ?_) (a' := ?_) #[true, true, true, true, true, true, true, true, true, true, true, true, true, true, true, true, true, false, false] rfl rfl (any_of HT_.out (by kernel_rfl)) (fun _ _ _ h => h) (Or.inl ⟨by rfl, ?_⟩) ?_ ?_
                rotate_left
                ·intro w'
                 go_simp
                 with_reducible rfl
                rotate_left
                ·simp only [Act.put, List.setIfInBounds_toArray, List.set_cons_zero, List.set_cons_succ, i64_w, i32_w]
                 rfl
                refine pure_ (i := 17) (N := some 79) (v := ?_) (a' := ?_) #[true, true, true, true, true, true, true, true, true, true, true, true, true, true, true, true, true, true, false] rfl rfl (any_of HT_.out (by kernel_rfl)) (fun _ _ _ h => h) (Or.inl ⟨by rfl, ?_⟩) ?_ ?_
                rotate_left
                ·intro w'
                 go_simp
                 with_reducible rfl
                rotate_left
                ·simp only [Act.put, List.setIfInBounds_toArray, List.set_cons_zero, List.set_cons_succ, i64_w, i32_w]
                 rfl
                refine last_ (i := 18) (N := none) #[true, true, true, true, true, true, true, true, true, true, true, true, true, true, true, true, true, true, true] rfl rfl (one_of HT_.out (by kernel_rfl)) (by decide) (fun K hK => ?_)
                refine skip_ (w1 := ?_) (by rfl) rfl ?_ ?_
                rotate_left
                ·go_simp
                 rfl
                refine hK.out _ _ ?_
                clear hK K
                refine done_ (done_of HT_.out (by kernel_rfl)) ?_
                try go_wp2
                (try simp only [← hl10_3])
                go_roundg k3
                case measure => have := HJ3.out; have := HK2.out; have := HK3.out; omega
                case rel => exact ⟨(y331), (wrap64 (x12_3 + 1)), (by first | rfl | (simp; done) | (simp [*]; done)), H', ⟨by have := HJ3.out; have := HK2.out; have := HK3.out; omega⟩, ⟨by (try simp only [hl10_2]); (try simp only [hl10_3]); (with_reducible repeat (first | apply Kd.R_alloc | apply Kd.R_drewN | apply Kd.R_drew)); exact HQ73.out⟩, ⟨by (try simp only [hl10_2]); (try simp only [hl10_3]); (with_reducible repeat (first | apply Kd.V_alloc | apply Kd.V_drewN | apply Kd.V_drew)); exact Kd.V_mono (Kd.V_far (p := ⟨go67, (x47_2 : Int).toNat, none⟩) (Kd.V_mono HO_293001.out (fun k_ hk => (⟨hk, fun e_ => hk.1 (by rw [e_]; rfl)⟩ : _ ∧ k_ ≠ go67))) (fun _ hk => hk.2) (.int .u64 (Go.bits .or .u64 (rd x10_3 x47_2) (ji66)))) (fun _ hk => ⟨hk.1.1, ⟨hk.1.2.1, ⟨hk.1.2.2.1, ⟨hk.1.2.2.2.1, hk.1.2.2.2.2⟩⟩⟩⟩)⟩, ⟨by (try simp only [hl10_2]); (try simp only [hl10_3]); (with_reducible repeat (first | apply Kd.V_alloc | apply Kd.V_drewN | apply Kd.V_drew)); exact Kd.V_mono (Kd.V_far (p := ⟨go67, (x47_2 : Int).toNat, none⟩) (Kd.V_mono HO_298001.out (fun k_ hk => (⟨hk, fun e_ => hk.1 (by rw [e_]; rfl)⟩ : _ ∧ k_ ≠ go67))) (fun _ hk => hk.2) (.int .u64 (Go.bits .or .u64 (rd x10_3 x47_2) (ji66)))) (fun _ hk => ⟨hk.1.1, ⟨hk.1.2.1, ⟨hk.1.2.2.1, ⟨hk.1.2.2.2.1, hk.1.2.2.2.2⟩⟩⟩⟩)⟩, ⟨by (try simp only [hl10_2]); (try simp only [hl10_3]); (with_reducible repeat (first | apply Kd.V_alloc | apply Kd.V_drewN | apply Kd.V_drew)); exact Kd.V_mono (Kd.V_far (p := ⟨go67, (x47_2 : Int).toNat, none⟩) (Kd.V_mono HO_317001.out (fun k_ hk => (⟨hk, fun e_ => hk.1 (by rw [e_]; rfl)⟩ : _ ∧ k_ ≠ go67))) (fun _ hk => hk.2) (.int .u64 (Go.bits .or .u64 (rd x10_3 x47_2) (ji66)))) (fun _ hk => ⟨hk.1.1, ⟨hk.1.2.1, ⟨hk.1.2.2.1, ⟨hk.1.2.2.2.1, hk.1.2.2.2.2⟩⟩⟩⟩)⟩, ⟨by (try simp only [hl10_2]); (try simp only [hl10_3]); (with_reducible repeat (first | apply Kd.V_alloc | apply Kd.V_drewN | apply Kd.V_drew)); exact Kd.V_mono (Kd.V_far (p := ⟨go67, (x47_2 : Int).toNat, none⟩) (Kd.V_mono HO_318001.out (fun k_ hk => (⟨hk, fun e_ => hk.1 (by rw [e_]; rfl)⟩ : _ ∧ k_ ≠ go67))) (fun _ hk => hk.2) (.int .u64 (Go.bits .or .u64 (rd x10_3 x47_2) (ji66)))) (fun _ hk => ⟨hk.1.1, ⟨hk.1.2.1, ⟨hk.1.2.2.1, ⟨hk.1.2.2.2.1, hk.1.2.2.2.2⟩⟩⟩⟩)⟩, ⟨by (try simp only [hl10_2]); (try simp only [hl10_3]); (with_reducible repeat (first | refine blk_drewN ?_ _ | refine blk_drew ?_ | refine blk_alloc ?_ _)); refine blk_far ?_ (by have h_ := Kd.R_ne HO_10.out BK292.out (by decide); intro e_; exact h_ (by rw [e_]; rfl)) _; (with_reducible repeat (first | refine blk_drewN ?_ _ | refine blk_drew ?_ | refine blk_alloc ?_ _)); exact BK292.out⟩, ⟨by (try simp only [hl10_2]); (try simp only [hl10_3]); (with_reducible repeat (first | refine blk_drewN ?_ _ | refine blk_drew ?_ | refine blk_alloc ?_ _)); refine blk_far ?_ (by have h_ := Kd.R_ne HO_10.out BK297.out (by decide); intro e_; exact h_ (by rw [e_]; rfl)) _; (with_reducible repeat (first | refine blk_drewN ?_ _ | refine blk_drew ?_ | refine blk_alloc ?_ _)); exact BK297.out⟩, ⟨by (try simp only [hl10_2]); (try simp only [hl10_3]); (with_reducible repeat (first | refine blk_drewN ?_ _ | refine blk_drew ?_ | refine blk_alloc ?_ _)); refine blk_far ?_ (by have h_ := Kd.R_ne HO_10.out BK316.out (by decide); intro e_; exact h_ (by rw [e_]; rfl)) _; (with_reducible repeat (first | refine blk_drewN ?_ _ | refine blk_drew ?_ | refine blk_alloc ?_ _)); exact BK316.out⟩, ⟨by (try simp only [hl10_2]); (try simp only [hl10_3]); (with_reducible repeat (first | refine blk_drewN ?_ _ | refine blk_drew ?_ | refine blk_alloc ?_ _)); refine blk_far ?_ (by have h_ := Kd.R_ne HO_10.out BK317.out (by decide); intro e_; exact h_ (by rw [e_]; rfl)) _; (with_reducible repeat (first | refine blk_drewN ?_ _ | refine blk_drew ?_ | refine blk_alloc ?_ _)); exact BK317.out⟩, ⟨by repeat (first | (with_reducible first | exact HB.out | apply below_alloc | apply pw_below_drewN | apply below_drew1 | refine below_set ?_ GB67.out | refine below_set ?_ GE292.out | refine below_set ?_ GE297.out | refine below_set ?_ GE316.out | refine below_set ?_ GE317.out) | exact HB.out)⟩⟩
               ·rw [if_neg c65] at H
                exact absurd H (by simp)
              ·rw [if_neg c63] at H
               exact absurd H (by simp)
             ·rw [if_neg c61] at H
              exact absurd H (by simp)
            ·rw [if_neg c60] at H
             exact absurd H (by simp)
           ·rw [if_neg c59] at H
            have c59b0 : decide ((wrap64 ((wrap64 (2 * x47_2)) + x12_3)) < (t323.length : Int)) = false := decide_eq_false c59
            clear c59
            have H' := Aside0.mk H
            clear H
            have hnb74 := NB292_297.out
            have hnc74 := NB297_292.out
            have hnb75 := NB292_316.out
            have hnc75 := NB316_292.out
            have hnb76 := NB292_317.out
            have hnc76 := NB317_292.out
            have hcz77_0 : wr.cell? ⟨gb292, 0, none⟩ = some (.bool t322) := (blk_cell BK292.out 0).trans rfl
            have hcz77_1 : wr.cell? ⟨gb292, 1, none⟩ = some (.slice Ao52 t323.length co52) := (blk_cell BK292.out 1).trans rfl
            have hfz77_0 := blk_frozen BK292.out 0
            have hfz77_1 := blk_frozen BK292.out 1
            go_wp2
            (try simp only [← hl10_3])
            go_roundg k3
            case measure => have := HJ3.out; have := HK2.out; have := HK3.out; omega
            case rel => exact ⟨(x10_3), (wrap64 (x12_3 + 1)), (by first | rfl | (simp; done) | (simp [*]; done)), H', ⟨by have := HJ3.out; have := HK2.out; have := HK3.out; omega⟩, ⟨by (try simp only [hl10_2]); (try simp only [hl10_3]); (with_reducible repeat (first | apply Kd.R_alloc | apply Kd.R_drewN | apply Kd.R_drew)); exact HO_10.out⟩, ⟨by (try simp only [hl10_2]); (try simp only [hl10_3]); (with_reducible repeat (first | apply Kd.V_alloc | apply Kd.V_drewN | apply Kd.V_drew)); exact HO_293001.out⟩, ⟨by (try simp only [hl10_2]); (try simp only [hl10_3]); (with_reducible repeat (first | apply Kd.V_alloc | apply Kd.V_drewN | apply Kd.V_drew)); exact HO_298001.out⟩, ⟨by (try simp only [hl10_2]); (try simp only [hl10_3]); (with_reducible repeat (first | apply Kd.V_alloc | apply Kd.V_drewN | apply Kd.V_drew)); exact HO_317001.out⟩, ⟨by (try simp only [hl10_2]); (try simp only [hl10_3]); (with_reducible repeat (first | apply Kd.V_alloc | apply Kd.V_drewN | apply Kd.V_drew)); exact HO_318001.out⟩, ⟨by (try simp only [hl10_2]); (try simp only [hl10_3]); (with_reducible repeat (first | refine blk_drewN ?_ _ | refine blk_drew ?_ | refine blk_alloc ?_ _)); exact BK292.out⟩, ⟨by (try simp only [hl10_2]); (try simp only [hl10_3]); (with_reducible repeat (first | refine blk_drewN ?_ _ | refine blk_drew ?_ | refine blk_alloc ?_ _)); exact BK297.out⟩, ⟨by (try simp only [hl10_2]); (try simp only [hl10_3]); (with_reducible repeat (first | refine blk_drewN ?_ _ | refine blk_drew ?_ | refine blk_alloc ?_ _)); exact BK316.out⟩, ⟨by (try simp only [hl10_2]); (try simp only [hl10_3]); (with_reducible repeat (first | refine blk_drewN ?_ _ | refine blk_drew ?_ | refine blk_alloc ?_ _)); exact BK317.out⟩, ⟨by repeat (first | (with_reducible first | exact HB.out | apply below_alloc | apply pw_below_drewN | apply below_drew1 | refine below_set ?_ GE292.out | refine below_set ?_ GE297.out | refine below_set ?_ GE316.out | refine below_set ?_ GE317.out) | exact HB.out)⟩⟩
          ·rw [if_neg c58] at H
           have c58b0 : decide (x12_3 < 2) = false := decide_eq_false c58
           clear c58
           have H' := Aside0.mk H
           clear H
           go_wp2
           (try simp only [← hl10_2, ← hl10_3])
           go_roundg k3
           case measure => have := HJ3.out; have := HK2.out; have := HK3.out; omega
           case rel => exact ⟨(x10_3), (wrap64 (x47_2 + 1)), (by first | rfl | (simp; done) | (simp [*]; done)), H', ⟨by have := HJ3.out; have := HK2.out; have := HK3.out; omega⟩, ⟨by (try simp only [hl10_2]); (try simp only [hl10_3]); (with_reducible repeat (first | apply Kd.R_alloc | apply Kd.R_drewN | apply Kd.R_drew)); exact HO_10.out⟩, ⟨by (try simp only [hl10_2]); (try simp only [hl10_3]); (with_reducible repeat (first | apply Kd.V_alloc | apply Kd.V_drewN | apply Kd.V_drew)); exact HO_293001.out⟩, ⟨by (try simp only [hl10_2]); (try simp only [hl10_3]); (with_reducible repeat (first | apply Kd.V_alloc | apply Kd.V_drewN | apply Kd.V_drew)); exact HO_298001.out⟩, ⟨by (try simp only [hl10_2]); (try simp only [hl10_3]); (with_reducible repeat (first | apply Kd.V_alloc | apply Kd.V_drewN | apply Kd.V_drew)); exact HO_317001.out⟩, ⟨by (try simp only [hl10_2]); (try simp only [hl10_3]); (with_reducible repeat (first | apply Kd.V_alloc | apply Kd.V_drewN | apply Kd.V_drew)); exact HO_318001.out⟩, ⟨by (try simp only [hl10_2]); (try simp only [hl10_3]); (with_reducible repeat (first | refine blk_drewN ?_ _ | refine blk_drew ?_ | refine blk_alloc ?_ _)); exact BK292.out⟩, ⟨by (try simp only [hl10_2]); (try simp only [hl10_3]); (with_reducible repeat (first | refine blk_drewN ?_ _ | refine blk_drew ?_ | refine blk_alloc ?_ _)); exact BK297.out⟩, ⟨by (try simp only [hl10_2]); (try simp only [hl10_3]); (with_reducible repeat (first | refine blk_drewN ?_ _ | refine blk_drew ?_ | refine blk_alloc ?_ _)); exact BK316.out⟩, ⟨by (try simp only [hl10_2]); (try simp only [hl10_3]); (with_reducible repeat (first | refine blk_drewN ?_ _ | refine blk_drew ?_ | refine blk_alloc ?_ _)); exact BK317.out⟩, ⟨by repeat (first | (with_reducible first | exact HB.out | apply below_alloc | apply pw_below_drewN | apply below_drew1 | refine below_set ?_ GE292.out | refine below_set ?_ GE297.out | refine below_set ?_ GE316.out | refine below_set ?_ GE317.out) | exact HB.out)⟩⟩
       ·rw [if_neg c57] at H
        have c57b0 : decide (x47_2 < (y326.length : Int)) = false := decide_eq_false c57
        rw [hl10_2] at c57b0
        clear c57
        simp only [Option.some.injEq, Prod.mk.injEq] at H
        obtain ⟨rfl, rfl⟩ := H
        go_wp2
        go_ret2
        exact ⟨_, by first | rfl | (simp [errW_none, errW_some] <;> rfl) | (simp [*, errW_none, errW_some] <;> rfl), by (with_reducible repeat (first | apply Kd.R_alloc | apply Kd.R_drewN | apply Kd.R_drew)); exact HO_10.out, by repeat (first | (with_reducible first | exact HB.out | apply below_alloc | apply pw_below_drewN | apply below_drew1 | refine below_set ?_ GE292.out | refine below_set ?_ GE297.out | refine below_set ?_ GE316.out | refine below_set ?_ GE317.out) | exact HB.out)⟩
    ·rw [if_neg c30] at H
     exact absurd H (by simp)
   ·rw [if_neg c29] at H
    exact absurd H (by simp)
end Go.Proofs.Ytnjniacohbeonaa.Q
