/- spec.ToWords, walked: a number whose sign is true. -/
import Derived.Test.YtgomeiepiajpeaaGreatTow0
namespace Go.Proofs.YtgomeiepiajpeaaGreat.Q
open Go.RowKit Go.Proofs.YtgomeiepiajpeaaGreatW.PrintWords Go.Proofs.YtgomeiepiajpeaaGreatW.PrintLast Go.Proofs.YtgomeiepiajpeaaGreatW.PrintMore
attribute [local go_sem] max2_int min2_int max_two min_two max_three min_three max_four min_four
set_option linter.unusedVariables false
set_option linter.unusedSimpArgs false

set_option maxHeartbeats 8000000 in
set_option maxRecDepth 100000 in
theorem spec_ToWords.calls_t (k : Nat) (a0_0 : Bool) (A0_1 : Option Addr) (c0_1 : Nat) (l0_1 : List Int) (a1 : Int) (r1 : List Int) (r2 : Bool) (w : World) (hr0_1 : Kd.C (Kd.int .u32) w A0_1 l0_1.length l0_1) (hc0_1 : l0_1.length ≤ c0_1) (ha_ : a0_0 = true) (h : spec_ToWords.f k a0_0 l0_1 a1 = some (r1, r2)) :
    Calls Tryz.prog 17 #[.agg #[.bool a0_0, .slice A0_1 l0_1.length c0_1], .int .i64 a1] w fun e w' => ∃ v0_ : Value, e = .returned (.tuple #[v0_, .bool r2]) ∧ Kd.R (Kd.int .u64) 30 w' w.heap.size (fun _ => True) v0_ r1 ∧ Below w.heap.size w w' := by
 have HA_ := Aside0.mk ha_
 clear ha_
 have hu27 := Tryz.underlying27
 have HR0_1 := Aside0.mk hr0_1
 have HC0_1 := Aside0.mk hc0_1
 clear hr0_1 hc0_1
 have HB := Aside0.mk (Below.refl w.heap.size w)
 have H : ((spec_Two.f k (wrap64 ((wrap64 (64 * a1)) - 1))).bind fun bt339 => ((spec_WideCmp.f k a0_0 l0_1 bt339.1 bt339.2).bind fun t344 => (if t344 < 0 then ((spec_Wide_Negated.f k bt339.1 bt339.2).bind fun bt345 => ((spec_WideCmp.f k a0_0 l0_1 bt345.1 bt345.2).bind fun t349 => (spec_ToWords.j0 k a1 (decide (t349 ≥ 0)) a0_0 l0_1))) else (spec_ToWords.j0 k a1 false a0_0 l0_1)))) = some (r1, r2) := h
 clear h
 replace H := Option.bind_eq_some_iff.mp H
 obtain ⟨⟨t339, t340⟩, A30, H⟩ := H
 replace H : ((spec_WideCmp.f k a0_0 l0_1 t339 t340).bind fun t344 => (if t344 < 0 then ((spec_Wide_Negated.f k t339 t340).bind fun bt345 => ((spec_WideCmp.f k a0_0 l0_1 bt345.1 bt345.2).bind fun t349 => (spec_ToWords.j0 k a1 (decide (t349 ≥ 0)) a0_0 l0_1))) else (spec_ToWords.j0 k a1 false a0_0 l0_1))) = some (r1, r2) := H
 have A3 := Aside0.mk A30
 clear A30
 have HC4 := Aside0.mk H
 clear H
 go_enter Tryz.func17, Tryz.ntmps17
 go_upto_region 2 with (first | ((with_reducible refine gate_dst (N := 2) rfl ?_); refine box_event ?hg (N := 2) ?hd (cs := #[.bool a0_0, .slice A0_1 l0_1.length c0_1]) (t := 27) ?hr ?_; (case hd => rfl); (case hg => rfl); (case hr => first | (go_simp; done) | (go_simp; rfl)); intro gb338 hg w5 hbox hb; have n0_ := Aside0.mk (below_step (by repeat (first | (with_reducible first | exact HB.out | apply below_alloc | apply pw_below_drewN | apply below_drew1) | exact HB.out)) hb); have n1_ := Aside0.mk (hbox); have n2_ := Aside0.mk ((by rw [hg]; exact (below_size (by repeat (first | (with_reducible first | exact HB.out | apply below_alloc | apply pw_below_drewN | apply below_drew1) | exact HB.out))) : w.heap.size ≤ gb338)); have n3_ := Aside0.mk ((by rw [hg]; exact (below_size (by repeat (first | (with_reducible first | exact HB.out | apply below_alloc | apply pw_below_drewN | apply below_drew1) | exact HB.out))) : w.heap.size ≤ gb338)); clear HB; have HB := n0_; have BK338 := n1_; have GW338 := n2_; have GE338 := n3_; clear n0_ n1_ n2_ n3_; clear hb hbox hg) | ((with_reducible refine gate_callee (f := 13) rfl ?_); refine goesL_ (some 16) rfl rfl Tryz.func13 (by kernel_rfl) rfl #[.int .i64 (wrap64 ((wrap64 (64 * a1)) - 1))] rfl (by (try simp only [List.map_toArray, List.map_cons, List.map_nil]); first | done | rfl | (simp only [List.length_drop, List.length_take]; rfl)) ?_; (with_reducible refine (spec_Two.calls k (wrap64 ((wrap64 (64 * a1)) - 1)) t339 t340 _ A3.out).mono ?_); rintro e w6 ⟨v341, rfl, ho0, hb⟩; refine ⟨_, rfl, ?_⟩; have n0_ := Aside0.mk (Kd.V_lower (Kd.V_mono (ok' := fun k_ => k_ ≠ gb338) ho0 (fun k_ hk_ => (Kd.freshB (g := gb338) (o := .cells #[.bool a0_0, .slice A0_1 l0_1.length c0_1] 27 (0, 0)) (by (with_reducible repeat (first | refine blk_drewN ?_ _ | refine blk_drew ?_ | refine blk_alloc ?_ _)); exact BK338.out) k_ hk_))) (below_size (by repeat (first | (with_reducible first | exact HB.out | apply below_alloc | apply pw_below_drewN | apply below_drew1 | refine below_set ?_ GE338.out) | exact HB.out)))); have n1_ := Aside0.mk (blk_below (g := gb338) (o := .cells #[.bool a0_0, .slice A0_1 l0_1.length c0_1] 27 (0, 0)) (by (with_reducible repeat (first | refine blk_drewN ?_ _ | refine blk_drew ?_ | refine blk_alloc ?_ _)); exact BK338.out) hb); have n2_ := Aside0.mk (below_step (by repeat (first | (with_reducible first | exact HB.out | apply below_alloc | apply pw_below_drewN | apply below_drew1 | refine below_set ?_ GE338.out) | exact HB.out)) hb); clear BK338; clear HB; have HO342 := n0_; have BK338 := n1_; have HB := n2_; clear n0_ n1_ n2_; (try clear hb); (try clear hb2); (try clear hk); (try clear hi); (try clear ho0)) | ((with_reducible refine gate_dst (N := 6) rfl ?_); refine box_event ?hg (N := 6) ?hd (cs := #[.bool false, .slice none 0 0]) (t := 27) ?hr ?_; (case hd => rfl); (case hg => rfl); (case hr => first | (go_simp; done) | (go_simp; rfl)); intro gb343 hg w7 hbox hb; have n0_ := Aside0.mk (Kd.V_below (Kd.V_elderB (by (with_reducible repeat (first | apply Kd.V_alloc | apply Kd.V_drewN | apply Kd.V_drew)); exact HO342.out) gb343 (Nat.le_of_eq hg.symm)) hb); have n1_ := Aside0.mk (blk_below (g := gb338) (o := .cells #[.bool a0_0, .slice A0_1 l0_1.length c0_1] 27 (0, 0)) (by (with_reducible repeat (first | refine blk_drewN ?_ _ | refine blk_drew ?_ | refine blk_alloc ?_ _)); exact BK338.out) hb); have n2_ := Aside0.mk (below_step (by repeat (first | (with_reducible first | exact HB.out | apply below_alloc | apply pw_below_drewN | apply below_drew1 | refine below_set ?_ GE338.out) | exact HB.out)) hb); have n3_ := Aside0.mk (hbox); have n4_ := Aside0.mk ((by rw [hg]; exact (below_size (by repeat (first | (with_reducible first | exact HB.out | apply below_alloc | apply pw_below_drewN | apply below_drew1 | refine below_set ?_ GE338.out) | exact HB.out))) : w.heap.size ≤ gb343)); have n5_ := Aside0.mk ((by rw [hg]; exact (below_size (by repeat (first | (with_reducible first | exact HB.out | apply below_alloc | apply pw_below_drewN | apply below_drew1 | refine below_set ?_ GE338.out) | exact HB.out))) : w.heap.size ≤ gb343)); have n6_ := Aside0.mk ((by rw [hg]; exact Nat.ne_of_lt (blk_lt (g := gb338) (o := .cells #[.bool a0_0, .slice A0_1 l0_1.length c0_1] 27 (0, 0)) (by (with_reducible repeat (first | refine blk_drewN ?_ _ | refine blk_drew ?_ | refine blk_alloc ?_ _)); exact BK338.out)) : gb338 ≠ gb343)); have n7_ := Aside0.mk ((by rw [hg]; exact Nat.ne_of_gt (blk_lt (g := gb338) (o := .cells #[.bool a0_0, .slice A0_1 l0_1.length c0_1] 27 (0, 0)) (by (with_reducible repeat (first | refine blk_drewN ?_ _ | refine blk_drew ?_ | refine blk_alloc ?_ _)); exact BK338.out)) : gb343 ≠ gb338)); clear HO342; clear BK338; clear HB; have HO342 := n0_; have BK338 := n1_; have HB := n2_; have BK343 := n3_; have GW343 := n4_; have GE343 := n5_; have NB338_343 := n6_; have NB343_338 := n7_; clear n0_ n1_ n2_ n3_ n4_ n5_ n6_ n7_; clear hb hbox hg; have hnb8 := NB343_338.out; have hnc8 := NB338_343.out; have hcz9_0 : w7.cell? ⟨gb343, 0, none⟩ = some (.bool false) := (blk_cell BK343.out 0).trans rfl; have hcz9_1 : w7.cell? ⟨gb343, 1, none⟩ = some (.slice none 0 0) := (blk_cell BK343.out 1).trans rfl; have hfz9_0 := blk_frozen BK343.out 0; have hfz9_1 := blk_frozen BK343.out 1; obtain ⟨Ao10, co10, eo10⟩ := Kd.V_slice HO342.out; subst eo10))
 (try simp only [Act.put, List.setIfInBounds_toArray, List.set_cons_zero, List.set_cons_succ])
 go_cut [7] (fun v7 wc => ∃ (kq : Nat) (x7_3 : Bool), v7 = .bool x7_3 ∧ Aside0 (spec_ToWords.j0 kq a1 x7_3 a0_0 l0_1 = some (r1, r2)) ∧ Aside0 (kq ≤ k) ∧ Aside0 (Kd.V (Kd.int .u32) 22 wc w.heap.size (fun k_ => k_ ≠ gb338 ∧ k_ ≠ gb343) (.slice Ao10 t340.length co10) t340) ∧ Aside0 (wc.heap[gb338]? = some (.cells #[.bool a0_0, (.slice A0_1 l0_1.length c0_1)] 27 (0, 0))) ∧ Aside0 (wc.heap[gb343]? = some (.cells #[.bool t339, (.slice Ao10 t340.length co10)] 27 (0, 0))) ∧ Aside0 (Below w.heap.size w wc))
 case first =>
  have H := HC4.out
  clear HC4
  replace H := Option.bind_eq_some_iff.mp H
  obtain ⟨t344, A110, H⟩ := H
  replace H : (if t344 < 0 then ((spec_Wide_Negated.f k t339 t340).bind fun bt345 => ((spec_WideCmp.f k a0_0 l0_1 bt345.1 bt345.2).bind fun t349 => (spec_ToWords.j0 k a1 (decide (t349 ≥ 0)) a0_0 l0_1))) else (spec_ToWords.j0 k a1 false a0_0 l0_1)) = some (r1, r2) := H
  have A11 := Aside0.mk A110
  clear A110
  by_cases c12 : t344 < 0
  ·rw [if_pos c12] at H
   have c12b0 : decide (t344 < 0) = true := decide_eq_true c12
   clear c12
   (first | rw [c12b0] | (simp only [i64_w, i32_w]; rw [c12b0]) | skip)
   replace H := Option.bind_eq_some_iff.mp H
   obtain ⟨⟨t345, t346⟩, A130, H⟩ := H
   replace H : ((spec_WideCmp.f k a0_0 l0_1 t345 t346).bind fun t349 => (spec_ToWords.j0 k a1 (decide (t349 ≥ 0)) a0_0 l0_1)) = some (r1, r2) := H
   have A13 := Aside0.mk A130
   clear A130
   replace H := Option.bind_eq_some_iff.mp H
   obtain ⟨t349, A140, H⟩ := H
   replace H : (spec_ToWords.j0 k a1 (decide (t349 ≥ 0)) a0_0 l0_1) = some (r1, r2) := H
   have A14 := Aside0.mk A140
   clear A140
   have H' := Aside0.mk H
   clear H
   try go_wp2
   have n0_ : Aside0 (Kd.V (Kd.int .u32) 22 ((w7.setCell ⟨gb343, 0, none⟩ (.bool t339)).setCell ⟨gb343, 1, none⟩ (.slice Ao10 t340.length co10)) w.heap.size (fun k_ => k_ ≠ gb338 ∧ k_ ≠ gb343) (.slice Ao10 t340.length co10) t340) := ⟨by (with_reducible repeat (first | apply Kd.V_alloc | apply Kd.V_drewN | apply Kd.V_drew)); exact Kd.V_mono (Kd.V_far (p := ⟨gb343, 1, none⟩) (Kd.V_far (p := ⟨gb343, 0, none⟩) (Kd.V_mono HO342.out (fun k_ hk => (⟨hk, hk.2⟩ : _ ∧ k_ ≠ gb343))) (fun _ hk => hk.2) (.bool t339)) (fun _ hk => hk.2) (.slice Ao10 t340.length co10)) (fun _ hk => ⟨hk.1.1, hk.1.2⟩)⟩
   have n1_ : Aside0 (((w7.setCell ⟨gb343, 0, none⟩ (.bool t339)).setCell ⟨gb343, 1, none⟩ (.slice Ao10 t340.length co10)).heap[gb338]? = some (.cells #[.bool a0_0, .slice A0_1 l0_1.length c0_1] 27 (0, 0))) := ⟨by (with_reducible repeat (first | refine blk_drewN ?_ _ | refine blk_drew ?_ | refine blk_alloc ?_ _)); refine blk_far ?_ NB338_343.out _; (with_reducible repeat (first | refine blk_drewN ?_ _ | refine blk_drew ?_ | refine blk_alloc ?_ _)); refine blk_far ?_ NB338_343.out _; (with_reducible repeat (first | refine blk_drewN ?_ _ | refine blk_drew ?_ | refine blk_alloc ?_ _)); exact BK338.out⟩
   have n2_ : Aside0 (((w7.setCell ⟨gb343, 0, none⟩ (.bool t339)).setCell ⟨gb343, 1, none⟩ (.slice Ao10 t340.length co10)).heap[gb343]? = some (.cells #[.bool t339, .slice Ao10 t340.length co10] 27 (0, 0))) := ⟨by (with_reducible repeat (first | refine blk_drewN ?_ _ | refine blk_drew ?_ | refine blk_alloc ?_ _)); refine blk_put (cs := #[.bool t339, .slice none 0 0]) ?_ 1 _ rfl; (with_reducible repeat (first | refine blk_drewN ?_ _ | refine blk_drew ?_ | refine blk_alloc ?_ _)); refine blk_put (cs := #[.bool false, .slice none 0 0]) ?_ 0 _ rfl; (with_reducible repeat (first | refine blk_drewN ?_ _ | refine blk_drew ?_ | refine blk_alloc ?_ _)); exact BK343.out⟩
   have n3_ : Aside0 (Below w.heap.size w ((w7.setCell ⟨gb343, 0, none⟩ (.bool t339)).setCell ⟨gb343, 1, none⟩ (.slice Ao10 t340.length co10))) := ⟨by repeat (first | (with_reducible first | exact HB.out | apply below_alloc | apply pw_below_drewN | apply below_drew1 | refine below_set ?_ GE338.out | refine below_set ?_ GE343.out) | exact HB.out)⟩
   (try clear HO342)
   (try clear BK338)
   (try clear BK343)
   (try clear HB)
   generalize ((w7.setCell ⟨gb343, 0, none⟩ (.bool t339)).setCell ⟨gb343, 1, none⟩ (.slice Ao10 t340.length co10)) = w15 at n0_ n1_ n2_ n3_ ⊢
   have HO342 := n0_
   have BK338 := n1_
   have BK343 := n2_
   have HB := n3_
   clear n0_ n1_ n2_ n3_
   have n0_ := Aside0.mk (Kd.V_drew HO342.out)
   have n1_ := Aside0.mk (blk_drew BK338.out)
   have n2_ := Aside0.mk (blk_drew BK343.out)
   have n3_ := Aside0.mk (below_drew1 HB.out)
   clear HO342 BK338 BK343 HB
   have HO342 := n0_
   have BK338 := n1_
   have BK343 := n2_
   have HB := n3_
   clear n0_ n1_ n2_ n3_
   refine start_ (n := 12) (S := fun w' => w'.cell? ⟨gb338, 0, none⟩ = some (.bool a0_0) ∧ w'.cell? ⟨gb338, 1, none⟩ = some (.slice A0_1 l0_1.length c0_1) ∧ w'.cell? ⟨gb343, 0, none⟩ = some (.bool t339) ∧ w'.cell? ⟨gb343, 1, none⟩ = some (.slice Ao10 t340.length co10)) (ds := []) #[false, false, false, false, false, false, false, false, false, false, false, false] (by kernel_rfl) rfl rfl ⟨(blk_cell BK338.out 0).trans rfl, (blk_cell BK338.out 1).trans rfl, (blk_cell BK343.out 0).trans rfl, (blk_cell BK343.out 1).trans rfl⟩ (fun hHeld => ?_); refine with_tabW spec_ToWords.tab2 spec_ToWords.bits2 (fun HT_ HW_ => ?_)
   generalize w15.drew = w16 at HO342 BK338 BK343 HB hHeld ⊢
   refine take_ (i := 0) (N := some 17) (v := ?_) (a' := ?_) #[true, false, false, false, false, false, false, false, false, false, false, false] rfl rfl (take_ofW HT_.out HW_.out (by kernel_rfl)) (fun _ _ _ h => h) (Or.inl ⟨by rfl, ?_⟩) hHeld ?_ ?_
   rotate_left
   ·rintro w' ⟨s0, s1, s2, s3⟩
    go_simp
    with_reducible rfl
   rotate_left
   ·simp only [Act.put, List.setIfInBounds_toArray, List.set_cons_zero, List.set_cons_succ, i64_w, i32_w]
    rfl
   refine take_ (i := 1) (N := some 18) (v := ?_) (a' := ?_) #[true, true, false, false, false, false, false, false, false, false, false, false] rfl rfl (take_ofW HT_.out HW_.out (by kernel_rfl)) (fun _ _ _ h => h) (Or.inl ⟨by rfl, ?_⟩) hHeld ?_ ?_
   rotate_left
   ·rintro w' ⟨s0, s1, s2, s3⟩
    go_simp
    with_reducible rfl
   rotate_left
   ·simp only [Act.put, List.setIfInBounds_toArray, List.set_cons_zero, List.set_cons_succ, i64_w, i32_w]
    rfl
   refine one_ (i := 2) (N := some 19) #[true, true, true, false, false, false, false, false, false, false, false, false] rfl rfl (one_of HT_.out (by kernel_rfl)) (by decide) (fun K hK => ?_)
   refine goes_ Tryz.func18 (by kernel_rfl) rfl #[.agg #[.bool a0_0, .slice A0_1 l0_1.length c0_1], .agg #[.bool t339, .slice Ao10 t340.length co10]] (by rfl) rfl rfl (by (try simp only [List.map_toArray, List.map_cons, List.map_nil]); first | done | rfl | (simp only [List.length_drop, List.length_take]; rfl)) ?_
   with_reducible refine (spec_WideCmp.calls k a0_0 _ _ l0_1 t339 _ _ t340 t344 _ ?side1 ?side2 ?side3 ?side4 A11.out).mono ?_
   (case side1 => repeat (first | exact (Kd.C_below HR0_1.out HB.out) | (with_reducible refine Kd.C_alloc ?_ _) | (with_reducible refine Kd.C_drewN ?_ _) | (with_reducible refine Kd.C_drew ?_)))
   (case side2 => exact HC0_1.out)
   (case side3 => repeat (first | exact (Kd.V_reads' HO342.out).2.2 | (with_reducible refine Kd.C_alloc ?_ _) | (with_reducible refine Kd.C_drewN ?_ _) | (with_reducible refine Kd.C_drew ?_)))
   (case side4 => exact (Kd.V_reads' HO342.out).2.1)
   rintro e w17 ⟨rfl, hb⟩
   refine ⟨_, rfl, ?_⟩
   have n0_ := Aside0.mk (Kd.V_below (by (with_reducible repeat (first | apply Kd.V_alloc | apply Kd.V_drewN | apply Kd.V_drew)); exact HO342.out) hb)
   have n1_ := Aside0.mk (blk_below (g := gb338) (o := .cells #[.bool a0_0, .slice A0_1 l0_1.length c0_1] 27 (0, 0)) (by (with_reducible repeat (first | refine blk_drewN ?_ _ | refine blk_drew ?_ | refine blk_alloc ?_ _)); exact BK338.out) hb)
   have n2_ := Aside0.mk (blk_below (g := gb343) (o := .cells #[.bool t339, .slice Ao10 t340.length co10] 27 (0, 0)) (by (with_reducible repeat (first | refine blk_drewN ?_ _ | refine blk_drew ?_ | refine blk_alloc ?_ _)); exact BK343.out) hb)
   have n3_ := Aside0.mk (below_step (by repeat (first | (with_reducible first | exact HB.out | apply below_alloc | apply pw_below_drewN | apply below_drew1 | refine below_set ?_ GE338.out | refine below_set ?_ GE343.out) | exact HB.out)) hb)
   clear HO342 BK338 BK343 HB
   have HO342 := n0_
   have BK338 := n1_
   have BK343 := n2_
   have HB := n3_
   clear n0_ n1_ n2_ n3_
   (try clear hb)
   (try clear hb2)
   (try clear hk)
   (try clear hi)
   refine hK.out _ _ ⟨(blk_cell BK338.out 0).trans rfl, (blk_cell BK338.out 1).trans rfl, (blk_cell BK343.out 0).trans rfl, (blk_cell BK343.out 1).trans rfl⟩ (fun hHeld => ?_)
   clear hK K
   refine norm_ (a' := ?_) ?_ ?_
   rotate_left
   ·show Act.put _ (some 19) _ = _
    simp only [Act.put, List.setIfInBounds_toArray, List.set_cons_zero, List.set_cons_succ, i64_w, i32_w]
    rfl
   refine pure_ (i := 3) (N := some 20) (v := ?_) (a' := ?_) #[true, true, true, true, false, false, false, false, false, false, false, false] rfl rfl (any_of HT_.out (by kernel_rfl)) (fun _ _ _ h => h) (Or.inl ⟨by rfl, ?_⟩) ?_ ?_
   rotate_left
   ·intro w'
    go_simp
    with_reducible rfl
   rotate_left
   ·simp only [Act.put, List.setIfInBounds_toArray, List.set_cons_zero, List.set_cons_succ, i64_w, i32_w]
    rfl
   refine pure_ (i := 4) (N := some 21) (v := ?_) (a' := ?_) #[true, true, true, true, true, false, false, false, false, false, false, false] rfl rfl (any_of HT_.out (by kernel_rfl)) (fun _ _ _ h => h) (Or.inl ⟨by rfl, ?_⟩) ?_ ?_
   rotate_left
   ·intro w'
    go_simp
    with_reducible rfl
   rotate_left
   ·simp only [Act.put, List.setIfInBounds_toArray, List.set_cons_zero, List.set_cons_succ, i64_w, i32_w]
    rfl
   refine take_ (i := 5) (N := some 22) (v := ?_) (a' := ?_) #[true, true, true, true, true, true, false, false, false, false, false, false] rfl rfl (take_ofW HT_.out HW_.out (by kernel_rfl)) (fun _ _ _ h => h) (Or.inl ⟨by rfl, ?_⟩) hHeld ?_ ?_
   rotate_left
   ·rintro w' ⟨s0, s1, s2, s3⟩
    go_simp
    with_reducible rfl
   rotate_left
   ·simp only [Act.put, List.setIfInBounds_toArray, List.set_cons_zero, List.set_cons_succ, i64_w, i32_w]
    rfl
   refine take_ (i := 6) (N := some 23) (v := ?_) (a' := ?_) #[true, true, true, true, true, true, true, false, false, false, false, false] rfl rfl (take_ofW HT_.out HW_.out (by kernel_rfl)) (fun _ _ _ h => h) (Or.inl ⟨by rfl, ?_⟩) hHeld ?_ ?_
   rotate_left
   ·rintro w' ⟨s0, s1, s2, s3⟩
    go_simp
    with_reducible rfl
   rotate_left
   ·simp only [Act.put, List.setIfInBounds_toArray, List.set_cons_zero, List.set_cons_succ, i64_w, i32_w]
    rfl
   refine one_ (i := 7) (N := some 24) #[true, true, true, true, true, true, true, true, false, false, false, false] rfl rfl (one_of HT_.out (by kernel_rfl)) (by decide) (fun K hK => ?_)
   refine goes_ Tryz.func14 (by kernel_rfl) rfl #[.agg #[.bool t339, .slice Ao10 t340.length co10]] (by rfl) rfl rfl (by (try simp only [List.map_toArray, List.map_cons, List.map_nil]); first | done | rfl | (simp only [List.length_drop, List.length_take]; rfl)) ?_
   with_reducible refine (spec_Wide_Negated.calls k t339 (fun k_ => (k_ ≠ gb338 ∧ k_ ≠ gb343)) _ _ t340 t345 t346 _ ?side1 A13.out).mono ?_
   (case side1 => exact HO342.out)
   rintro e w18 ⟨v347, rfl, ho0, hb⟩
   refine ⟨_, rfl, ?_⟩
   have n0_ := Aside0.mk (Kd.V_below (by (with_reducible repeat (first | apply Kd.V_alloc | apply Kd.V_drewN | apply Kd.V_drew)); exact HO342.out) hb)
   have n1_ := Aside0.mk (Kd.V_lower (Kd.V_mono (ok' := fun k_ => k_ ≠ gb338 ∧ k_ ≠ gb343) ho0 (fun k_ hk_ => ⟨Or.elim hk_ (fun hs_ => hs_.1) (fun hn_ => (Kd.freshB (g := gb338) (o := .cells #[.bool a0_0, .slice A0_1 l0_1.length c0_1] 27 (0, 0)) (by (with_reducible repeat (first | refine blk_drewN ?_ _ | refine blk_drew ?_ | refine blk_alloc ?_ _)); exact BK338.out) k_ hn_)), Or.elim hk_ (fun hs_ => hs_.2) (fun hn_ => (Kd.freshB (g := gb343) (o := .cells #[.bool t339, .slice Ao10 t340.length co10] 27 (0, 0)) (by (with_reducible repeat (first | refine blk_drewN ?_ _ | refine blk_drew ?_ | refine blk_alloc ?_ _)); exact BK343.out) k_ hn_))⟩)) (below_size (by repeat (first | (with_reducible first | exact HB.out | apply below_alloc | apply pw_below_drewN | apply below_drew1 | refine below_set ?_ GE338.out | refine below_set ?_ GE343.out) | exact HB.out))))
   have n2_ := Aside0.mk (blk_below (g := gb338) (o := .cells #[.bool a0_0, .slice A0_1 l0_1.length c0_1] 27 (0, 0)) (by (with_reducible repeat (first | refine blk_drewN ?_ _ | refine blk_drew ?_ | refine blk_alloc ?_ _)); exact BK338.out) hb)
   have n3_ := Aside0.mk (blk_below (g := gb343) (o := .cells #[.bool t339, .slice Ao10 t340.length co10] 27 (0, 0)) (by (with_reducible repeat (first | refine blk_drewN ?_ _ | refine blk_drew ?_ | refine blk_alloc ?_ _)); exact BK343.out) hb)
   have n4_ := Aside0.mk (below_step (by repeat (first | (with_reducible first | exact HB.out | apply below_alloc | apply pw_below_drewN | apply below_drew1 | refine below_set ?_ GE338.out | refine below_set ?_ GE343.out) | exact HB.out)) hb)
   clear HO342 BK338 BK343 HB
   have HO342 := n0_
   have HO348 := n1_
   have BK338 := n2_
   have BK343 := n3_
   have HB := n4_
   clear n0_ n1_ n2_ n3_ n4_
   (try clear hb)
   (try clear hb2)
   (try clear hk)
   (try clear hi)
   (try clear ho0)
   obtain ⟨Ao19, co19, eo19⟩ := Kd.V_slice HO348.out
   (first | subst eo19 | (injection eo19 with f1_ f2_ f3_; have f4_ := f1_.symm; have f5_ := f3_.symm; clear f1_ f2_ f3_; subst f4_; subst f5_))
   refine hK.out _ _ ⟨(blk_cell BK338.out 0).trans rfl, (blk_cell BK338.out 1).trans rfl, (blk_cell BK343.out 0).trans rfl, (blk_cell BK343.out 1).trans rfl⟩ (fun hHeld => ?_)
   clear hK K
   refine norm_ (a' := ?_) ?_ ?_
   rotate_left
   ·show Act.put _ (some 24) _ = _
    simp only [Act.put, List.setIfInBounds_toArray, List.set_cons_zero, List.set_cons_succ, i64_w, i32_w]
    rfl
   refine one_ (i := 8) (N := some 25) #[true, true, true, true, true, true, true, true, true, false, false, false] rfl rfl (one_of HT_.out (by kernel_rfl)) (by decide) (fun K hK => ?_)
   refine goes_ Tryz.func18 (by kernel_rfl) rfl #[.agg #[.bool a0_0, .slice A0_1 l0_1.length c0_1], .agg #[.bool t345, .slice Ao19 t346.length co19]] (by rfl) rfl rfl (by (try simp only [List.map_toArray, List.map_cons, List.map_nil]); first | done | rfl | (simp only [List.length_drop, List.length_take]; rfl)) ?_
   with_reducible refine (spec_WideCmp.calls k a0_0 _ _ l0_1 t345 _ _ t346 t349 _ ?side1 ?side2 ?side3 ?side4 A14.out).mono ?_
   (case side1 => repeat (first | exact (Kd.C_below HR0_1.out HB.out) | (with_reducible refine Kd.C_alloc ?_ _) | (with_reducible refine Kd.C_drewN ?_ _) | (with_reducible refine Kd.C_drew ?_)))
   (case side2 => exact HC0_1.out)
   (case side3 => repeat (first | exact (Kd.V_reads' HO348.out).2.2 | (with_reducible refine Kd.C_alloc ?_ _) | (with_reducible refine Kd.C_drewN ?_ _) | (with_reducible refine Kd.C_drew ?_)))
   (case side4 => exact (Kd.V_reads' HO348.out).2.1)
   rintro e w20 ⟨rfl, hb⟩
   refine ⟨_, rfl, ?_⟩
   have n0_ := Aside0.mk (Kd.V_below (by (with_reducible repeat (first | apply Kd.V_alloc | apply Kd.V_drewN | apply Kd.V_drew)); exact HO342.out) hb)
   have n1_ := Aside0.mk (Kd.V_below (by (with_reducible repeat (first | apply Kd.V_alloc | apply Kd.V_drewN | apply Kd.V_drew)); exact HO348.out) hb)
   have n2_ := Aside0.mk (blk_below (g := gb338) (o := .cells #[.bool a0_0, .slice A0_1 l0_1.length c0_1] 27 (0, 0)) (by (with_reducible repeat (first | refine blk_drewN ?_ _ | refine blk_drew ?_ | refine blk_alloc ?_ _)); exact BK338.out) hb)
   have n3_ := Aside0.mk (blk_below (g := gb343) (o := .cells #[.bool t339, .slice Ao10 t340.length co10] 27 (0, 0)) (by (with_reducible repeat (first | refine blk_drewN ?_ _ | refine blk_drew ?_ | refine blk_alloc ?_ _)); exact BK343.out) hb)
   have n4_ := Aside0.mk (below_step (by repeat (first | (with_reducible first | exact HB.out | apply below_alloc | apply pw_below_drewN | apply below_drew1 | refine below_set ?_ GE338.out | refine below_set ?_ GE343.out) | exact HB.out)) hb)
   clear HO342 HO348 BK338 BK343 HB
   have HO342 := n0_
   have HO348 := n1_
   have BK338 := n2_
   have BK343 := n3_
   have HB := n4_
   clear n0_ n1_ n2_ n3_ n4_
   (try clear hb)
   (try clear hb2)
   (try clear hk)
   (try clear hi)
   refine hK.out _ _ ⟨(blk_cell BK338.out 0).trans rfl, (blk_cell BK338.out 1).trans rfl, (blk_cell BK343.out 0).trans rfl, (blk_cell BK343.out 1).trans rfl⟩ (fun hHeld => ?_)
   clear hK K
   refine norm_ (a' := ?_) ?_ ?_
   rotate_left
   ·show Act.put _ (some 25) _ = _
    simp only [Act.put, List.setIfInBounds_toArray, List.set_cons_zero, List.set_cons_succ, i64_w, i32_w]
    rfl
   refine pure_ (i := 9) (N := some 26) (v := ?_) (a' := ?_) #[true, true, true, true, true, true, true, true, true, true, false, false] rfl rfl (any_of HT_.out (by kernel_rfl)) (fun _ _ _ h => h) (Or.inl ⟨by rfl, ?_⟩) ?_ ?_
   rotate_left
   ·intro w'
    go_simp
    with_reducible rfl
   rotate_left
   ·simp only [Act.put, List.setIfInBounds_toArray, List.set_cons_zero, List.set_cons_succ, i64_w, i32_w]
    rfl
   refine pure_ (i := 10) (N := some 27) (v := ?_) (a' := ?_) #[true, true, true, true, true, true, true, true, true, true, true, false] rfl rfl (any_of HT_.out (by kernel_rfl)) (fun _ _ _ h => h) (Or.inl ⟨by rfl, ?_⟩) ?_ ?_
   rotate_left
   ·intro w'
    go_simp
    with_reducible rfl
   rotate_left
   ·simp only [Act.put, List.setIfInBounds_toArray, List.set_cons_zero, List.set_cons_succ, i64_w, i32_w]
    rfl
   refine pure_ (i := 11) (N := some 7) (v := ?_) (a' := ?_) #[true, true, true, true, true, true, true, true, true, true, true, true] rfl rfl (any_of HT_.out (by kernel_rfl)) (fun _ _ _ h => h) (Or.inl ⟨by rfl, ?_⟩) ?_ ?_
   rotate_left
   ·intro w'
    go_simp
    with_reducible rfl
   rotate_left
   ·simp only [Act.put, List.setIfInBounds_toArray, List.set_cons_zero, List.set_cons_succ, i64_w, i32_w]
    rfl
   refine done_ (done_of HT_.out (by kernel_rfl)) ?_
   try go_wp2
   go_meet
   case rel => exact ⟨_, (decide (t349 ≥ 0)), (by first | rfl | (simp; done) | (simp [*]; done)), H', ⟨by first | omega | exact Nat.le_refl _⟩, ⟨by (with_reducible repeat (first | apply Kd.V_alloc | apply Kd.V_drewN | apply Kd.V_drew)); exact HO342.out⟩, ⟨by (with_reducible repeat (first | refine blk_drewN ?_ _ | refine blk_drew ?_ | refine blk_alloc ?_ _)); exact BK338.out⟩, ⟨by (with_reducible repeat (first | refine blk_drewN ?_ _ | refine blk_drew ?_ | refine blk_alloc ?_ _)); exact BK343.out⟩, ⟨by repeat (first | (with_reducible first | exact HB.out | apply below_alloc | apply pw_below_drewN | apply below_drew1 | refine below_set ?_ GE338.out | refine below_set ?_ GE343.out) | exact HB.out)⟩⟩
  ·rw [if_neg c12] at H
   have c12b0 : decide (t344 < 0) = false := decide_eq_false c12
   clear c12
   (first | rw [c12b0] | (simp only [i64_w, i32_w]; rw [c12b0]) | skip)
   have H' := Aside0.mk H
   clear H
   try go_wp2
   have n0_ : Aside0 (Kd.V (Kd.int .u32) 22 ((w7.setCell ⟨gb343, 0, none⟩ (.bool t339)).setCell ⟨gb343, 1, none⟩ (.slice Ao10 t340.length co10)) w.heap.size (fun k_ => k_ ≠ gb338 ∧ k_ ≠ gb343) (.slice Ao10 t340.length co10) t340) := ⟨by (with_reducible repeat (first | apply Kd.V_alloc | apply Kd.V_drewN | apply Kd.V_drew)); exact Kd.V_mono (Kd.V_far (p := ⟨gb343, 1, none⟩) (Kd.V_far (p := ⟨gb343, 0, none⟩) (Kd.V_mono HO342.out (fun k_ hk => (⟨hk, hk.2⟩ : _ ∧ k_ ≠ gb343))) (fun _ hk => hk.2) (.bool t339)) (fun _ hk => hk.2) (.slice Ao10 t340.length co10)) (fun _ hk => ⟨hk.1.1, hk.1.2⟩)⟩
   have n1_ : Aside0 (((w7.setCell ⟨gb343, 0, none⟩ (.bool t339)).setCell ⟨gb343, 1, none⟩ (.slice Ao10 t340.length co10)).heap[gb338]? = some (.cells #[.bool a0_0, .slice A0_1 l0_1.length c0_1] 27 (0, 0))) := ⟨by (with_reducible repeat (first | refine blk_drewN ?_ _ | refine blk_drew ?_ | refine blk_alloc ?_ _)); refine blk_far ?_ NB338_343.out _; (with_reducible repeat (first | refine blk_drewN ?_ _ | refine blk_drew ?_ | refine blk_alloc ?_ _)); refine blk_far ?_ NB338_343.out _; (with_reducible repeat (first | refine blk_drewN ?_ _ | refine blk_drew ?_ | refine blk_alloc ?_ _)); exact BK338.out⟩
   have n2_ : Aside0 (((w7.setCell ⟨gb343, 0, none⟩ (.bool t339)).setCell ⟨gb343, 1, none⟩ (.slice Ao10 t340.length co10)).heap[gb343]? = some (.cells #[.bool t339, .slice Ao10 t340.length co10] 27 (0, 0))) := ⟨by (with_reducible repeat (first | refine blk_drewN ?_ _ | refine blk_drew ?_ | refine blk_alloc ?_ _)); refine blk_put (cs := #[.bool t339, .slice none 0 0]) ?_ 1 _ rfl; (with_reducible repeat (first | refine blk_drewN ?_ _ | refine blk_drew ?_ | refine blk_alloc ?_ _)); refine blk_put (cs := #[.bool false, .slice none 0 0]) ?_ 0 _ rfl; (with_reducible repeat (first | refine blk_drewN ?_ _ | refine blk_drew ?_ | refine blk_alloc ?_ _)); exact BK343.out⟩
   have n3_ : Aside0 (Below w.heap.size w ((w7.setCell ⟨gb343, 0, none⟩ (.bool t339)).setCell ⟨gb343, 1, none⟩ (.slice Ao10 t340.length co10))) := ⟨by repeat (first | (with_reducible first | exact HB.out | apply below_alloc | apply pw_below_drewN | apply below_drew1 | refine below_set ?_ GE338.out | refine below_set ?_ GE343.out) | exact HB.out)⟩
   (try clear HO342)
   (try clear BK338)
   (try clear BK343)
   (try clear HB)
   generalize ((w7.setCell ⟨gb343, 0, none⟩ (.bool t339)).setCell ⟨gb343, 1, none⟩ (.slice Ao10 t340.length co10)) = w21 at n0_ n1_ n2_ n3_ ⊢
   have HO342 := n0_
   have BK338 := n1_
   have BK343 := n2_
   have HB := n3_
   clear n0_ n1_ n2_ n3_
   have n0_ := Aside0.mk (Kd.V_drew HO342.out)
   have n1_ := Aside0.mk (blk_drew BK338.out)
   have n2_ := Aside0.mk (blk_drew BK343.out)
   have n3_ := Aside0.mk (below_drew1 HB.out)
   clear HO342 BK338 BK343 HB
   have HO342 := n0_
   have BK338 := n1_
   have BK343 := n2_
   have HB := n3_
   clear n0_ n1_ n2_ n3_
   refine start_ (n := 12) (S := fun w' => w'.cell? ⟨gb338, 0, none⟩ = some (.bool a0_0) ∧ w'.cell? ⟨gb338, 1, none⟩ = some (.slice A0_1 l0_1.length c0_1) ∧ w'.cell? ⟨gb343, 0, none⟩ = some (.bool t339) ∧ w'.cell? ⟨gb343, 1, none⟩ = some (.slice Ao10 t340.length co10)) (ds := []) #[false, false, false, false, false, false, false, false, false, false, false, false] (by kernel_rfl) rfl rfl ⟨(blk_cell BK338.out 0).trans rfl, (blk_cell BK338.out 1).trans rfl, (blk_cell BK343.out 0).trans rfl, (blk_cell BK343.out 1).trans rfl⟩ (fun hHeld => ?_); refine with_tabW spec_ToWords.tab2 spec_ToWords.bits2 (fun HT_ HW_ => ?_)
   generalize w21.drew = w22 at HO342 BK338 BK343 HB hHeld ⊢
   refine take_ (i := 0) (N := some 17) (v := ?_) (a' := ?_) #[true, false, false, false, false, false, false, false, false, false, false, false] rfl rfl (take_ofW HT_.out HW_.out (by kernel_rfl)) (fun _ _ _ h => h) (Or.inl ⟨by rfl, ?_⟩) hHeld ?_ ?_
   rotate_left
   ·rintro w' ⟨s0, s1, s2, s3⟩
    go_simp
    with_reducible rfl
   rotate_left
   ·simp only [Act.put, List.setIfInBounds_toArray, List.set_cons_zero, List.set_cons_succ, i64_w, i32_w]
    rfl
   refine take_ (i := 1) (N := some 18) (v := ?_) (a' := ?_) #[true, true, false, false, false, false, false, false, false, false, false, false] rfl rfl (take_ofW HT_.out HW_.out (by kernel_rfl)) (fun _ _ _ h => h) (Or.inl ⟨by rfl, ?_⟩) hHeld ?_ ?_
   rotate_left
   ·rintro w' ⟨s0, s1, s2, s3⟩
    go_simp
    with_reducible rfl
   rotate_left
   ·simp only [Act.put, List.setIfInBounds_toArray, List.set_cons_zero, List.set_cons_succ, i64_w, i32_w]
    rfl
   refine one_ (i := 2) (N := some 19) #[true, true, true, false, false, false, false, false, false, false, false, false] rfl rfl (one_of HT_.out (by kernel_rfl)) (by decide) (fun K hK => ?_)
   refine goes_ Tryz.func18 (by kernel_rfl) rfl #[.agg #[.bool a0_0, .slice A0_1 l0_1.length c0_1], .agg #[.bool t339, .slice Ao10 t340.length co10]] (by rfl) rfl rfl (by (try simp only [List.map_toArray, List.map_cons, List.map_nil]); first | done | rfl | (simp only [List.length_drop, List.length_take]; rfl)) ?_
   with_reducible refine (spec_WideCmp.calls k a0_0 _ _ l0_1 t339 _ _ t340 t344 _ ?side1 ?side2 ?side3 ?side4 A11.out).mono ?_
   (case side1 => repeat (first | exact (Kd.C_below HR0_1.out HB.out) | (with_reducible refine Kd.C_alloc ?_ _) | (with_reducible refine Kd.C_drewN ?_ _) | (with_reducible refine Kd.C_drew ?_)))
   (case side2 => exact HC0_1.out)
   (case side3 => repeat (first | exact (Kd.V_reads' HO342.out).2.2 | (with_reducible refine Kd.C_alloc ?_ _) | (with_reducible refine Kd.C_drewN ?_ _) | (with_reducible refine Kd.C_drew ?_)))
   (case side4 => exact (Kd.V_reads' HO342.out).2.1)
   rintro e w23 ⟨rfl, hb⟩
   refine ⟨_, rfl, ?_⟩
   have n0_ := Aside0.mk (Kd.V_below (by (with_reducible repeat (first | apply Kd.V_alloc | apply Kd.V_drewN | apply Kd.V_drew)); exact HO342.out) hb)
   have n1_ := Aside0.mk (blk_below (g := gb338) (o := .cells #[.bool a0_0, .slice A0_1 l0_1.length c0_1] 27 (0, 0)) (by (with_reducible repeat (first | refine blk_drewN ?_ _ | refine blk_drew ?_ | refine blk_alloc ?_ _)); exact BK338.out) hb)
   have n2_ := Aside0.mk (blk_below (g := gb343) (o := .cells #[.bool t339, .slice Ao10 t340.length co10] 27 (0, 0)) (by (with_reducible repeat (first | refine blk_drewN ?_ _ | refine blk_drew ?_ | refine blk_alloc ?_ _)); exact BK343.out) hb)
   have n3_ := Aside0.mk (below_step (by repeat (first | (with_reducible first | exact HB.out | apply below_alloc | apply pw_below_drewN | apply below_drew1 | refine below_set ?_ GE338.out | refine below_set ?_ GE343.out) | exact HB.out)) hb)
   clear HO342 BK338 BK343 HB
   have HO342 := n0_
   have BK338 := n1_
   have BK343 := n2_
   have HB := n3_
   clear n0_ n1_ n2_ n3_
   (try clear hb)
   (try clear hb2)
   (try clear hk)
   (try clear hi)
   refine hK.out _ _ ⟨(blk_cell BK338.out 0).trans rfl, (blk_cell BK338.out 1).trans rfl, (blk_cell BK343.out 0).trans rfl, (blk_cell BK343.out 1).trans rfl⟩ (fun hHeld => ?_)
   clear hK K
   refine norm_ (a' := ?_) ?_ ?_
   rotate_left
   ·show Act.put _ (some 19) _ = _
    simp only [Act.put, List.setIfInBounds_toArray, List.set_cons_zero, List.set_cons_succ, i64_w, i32_w]
    rfl
   refine pure_ (i := 3) (N := some 20) (v := ?_) (a' := ?_) #[true, true, true, true, false, false, false, false, false, false, false, false] rfl rfl (any_of HT_.out (by kernel_rfl)) (fun _ _ _ h => h) (Or.inl ⟨by rfl, ?_⟩) ?_ ?_
   rotate_left
   ·intro w'
    go_simp
    with_reducible rfl
   rotate_left
   ·simp only [Act.put, List.setIfInBounds_toArray, List.set_cons_zero, List.set_cons_succ, i64_w, i32_w]
    rfl
   refine pure_ (i := 4) (N := some 21) (v := ?_) (a' := ?_) #[true, true, true, true, true, false, false, false, false, false, false, false] rfl rfl (any_of HT_.out (by kernel_rfl)) (fun _ _ _ h => h) (Or.inl ⟨by rfl, ?_⟩) ?_ ?_
   rotate_left
   ·intro w'
    go_simp
    with_reducible rfl
   rotate_left
   ·simp only [Act.put, List.setIfInBounds_toArray, List.set_cons_zero, List.set_cons_succ, i64_w, i32_w]
    rfl
   refine pure_ (i := 5) (N := some 22) (v := undef) (a' := ?_) #[true, true, true, true, true, true, false, false, false, false, false, false] rfl rfl (any_of HT_.out (by kernel_rfl)) (fun _ _ _ h => h) (Or.inr ⟨by rfl, rfl⟩) ?_ ?_
   rotate_left
   ·simp only [Act.put, List.setIfInBounds_toArray, List.set_cons_zero, List.set_cons_succ, i64_w, i32_w]
    rfl
   refine pure_ (i := 6) (N := some 23) (v := undef) (a' := ?_) #[true, true, true, true, true, true, true, false, false, false, false, false] rfl rfl (any_of HT_.out (by kernel_rfl)) (fun _ _ _ h => h) (Or.inr ⟨by rfl, rfl⟩) ?_ ?_
   rotate_left
   ·simp only [Act.put, List.setIfInBounds_toArray, List.set_cons_zero, List.set_cons_succ, i64_w, i32_w]
    rfl
   refine pure_ (i := 7) (N := some 24) (v := undef) (a' := ?_) #[true, true, true, true, true, true, true, true, false, false, false, false] rfl rfl (any_of HT_.out (by kernel_rfl)) (fun _ _ _ h => h) (Or.inr ⟨by rfl, rfl⟩) ?_ ?_
   rotate_left
   ·simp only [Act.put, List.setIfInBounds_toArray, List.set_cons_zero, List.set_cons_succ, i64_w, i32_w]
    rfl
   refine pure_ (i := 8) (N := some 25) (v := undef) (a' := ?_) #[true, true, true, true, true, true, true, true, true, false, false, false] rfl rfl (any_of HT_.out (by kernel_rfl)) (fun _ _ _ h => h) (Or.inr ⟨by rfl, rfl⟩) ?_ ?_
   rotate_left
   ·simp only [Act.put, List.setIfInBounds_toArray, List.set_cons_zero, List.set_cons_succ, i64_w, i32_w]
    rfl
   refine pure_ (i := 9) (N := some 26) (v := undef) (a' := ?_) #[true, true, true, true, true, true, true, true, true, true, false, false] rfl rfl (any_of HT_.out (by kernel_rfl)) (fun _ _ _ h => h) (Or.inr ⟨by rfl, rfl⟩) ?_ ?_
   rotate_left
   ·simp only [Act.put, List.setIfInBounds_toArray, List.set_cons_zero, List.set_cons_succ, i64_w, i32_w]
    rfl
   refine pure_ (i := 10) (N := some 27) (v := ?_) (a' := ?_) #[true, true, true, true, true, true, true, true, true, true, true, false] rfl rfl (any_of HT_.out (by kernel_rfl)) (fun _ _ _ h => h) (Or.inl ⟨by rfl, ?_⟩) ?_ ?_
   rotate_left
   ·intro w'
    go_simp
    with_reducible rfl
   rotate_left
   ·simp only [Act.put, List.setIfInBounds_toArray, List.set_cons_zero, List.set_cons_succ, i64_w, i32_w]
    rfl
   refine pure_ (i := 11) (N := some 7) (v := ?_) (a' := ?_) #[true, true, true, true, true, true, true, true, true, true, true, true] rfl rfl (any_of HT_.out (by kernel_rfl)) (fun _ _ _ h => h) (Or.inl ⟨by rfl, ?_⟩) ?_ ?_
   rotate_left
   ·intro w'
    go_simp
    with_reducible rfl
   rotate_left
   ·simp only [Act.put, List.setIfInBounds_toArray, List.set_cons_zero, List.set_cons_succ, i64_w, i32_w]
    rfl
   refine done_ (done_of HT_.out (by kernel_rfl)) ?_
   try go_wp2
   go_meet
   case rel => exact ⟨_, (false), (by first | rfl | (simp; done) | (simp [*]; done)), H', ⟨by first | omega | exact Nat.le_refl _⟩, ⟨by (with_reducible repeat (first | apply Kd.V_alloc | apply Kd.V_drewN | apply Kd.V_drew)); exact HO342.out⟩, ⟨by (with_reducible repeat (first | refine blk_drewN ?_ _ | refine blk_drew ?_ | refine blk_alloc ?_ _)); exact BK338.out⟩, ⟨by (with_reducible repeat (first | refine blk_drewN ?_ _ | refine blk_drew ?_ | refine blk_alloc ?_ _)); exact BK343.out⟩, ⟨by repeat (first | (with_reducible first | exact HB.out | apply below_alloc | apply pw_below_drewN | apply below_drew1 | refine below_set ?_ GE338.out | refine below_set ?_ GE343.out) | exact HB.out)⟩⟩
 case rest =>
  clear HC4
  try clear c1
  try clear p2
  try clear p6
  try clear c8
  try clear c12
  try clear c12b0
  try clear c13
  try clear c14
  try clear c17
  try clear c18
  try clear hcz9_0
  try clear hcz9_1
  try clear hfz9_0
  try clear hfz9_1
  obtain ⟨kq, x7_3, rfl, HA, HJ3, HO_344001, BK338, BK343, HB⟩ := hcut
  cases kq with
  | zero => exact absurd HA.out (by simp [spec_ToWords.j0])
  | succ kj3 =>
   have H := HA.out
   clear HA
   simp only [spec_ToWords.j0] at H
   have c24 : a0_0 = true := HA_.out
   subst c24
   have H1 : ((spec_Two.f kj3 (wrap64 (64 * a1))).bind fun bt350 => ((spec_WideDiv.f kj3 true l0_1 bt350.1 bt350.2).bind fun bt354 => ((spec_Two.f kj3 (wrap64 (64 * a1))).bind fun bt364 => ((spec_WideAdd.f kj3 bt354.2.2.1 bt354.2.2.2 bt364.1 bt364.2).bind fun bt368 => (if 0 ≤ a1 then (if (a1 : Int).toNat ≤ 35184372088832 then ((some (List.replicate (a1 : Int).toNat 0 : List Int)).bind fun y372 => (spec_ToWords.l0 kj3 x7_3 y372 (y372.length : Int) 0 bt368.1 bt368.2)) else (none)) else (none)))))) = some (r1, r2) := by rw [if_pos rfl] at H; exact H
   clear H
   have H := H1
   clear H1
   replace H := Option.bind_eq_some_iff.mp H
   obtain ⟨⟨t350, t351⟩, A250, H⟩ := H
   replace H : ((spec_WideDiv.f kj3 true l0_1 t350 t351).bind fun bt354 => ((spec_Two.f kj3 (wrap64 (64 * a1))).bind fun bt364 => ((spec_WideAdd.f kj3 bt354.2.2.1 bt354.2.2.2 bt364.1 bt364.2).bind fun bt368 => (if 0 ≤ a1 then (if (a1 : Int).toNat ≤ 35184372088832 then ((some (List.replicate (a1 : Int).toNat 0 : List Int)).bind fun y372 => (spec_ToWords.l0 kj3 x7_3 y372 (y372.length : Int) 0 bt368.1 bt368.2)) else (none)) else (none))))) = some (r1, r2) := H
   have A25 := Aside0.mk A250
   clear A250
   replace H := Option.bind_eq_some_iff.mp H
   obtain ⟨⟨t354, t355, t358, t359⟩, A260, H⟩ := H
   replace H : ((spec_Two.f kj3 (wrap64 (64 * a1))).bind fun bt364 => ((spec_WideAdd.f kj3 t358 t359 bt364.1 bt364.2).bind fun bt368 => (if 0 ≤ a1 then (if (a1 : Int).toNat ≤ 35184372088832 then ((some (List.replicate (a1 : Int).toNat 0 : List Int)).bind fun y372 => (spec_ToWords.l0 kj3 x7_3 y372 (y372.length : Int) 0 bt368.1 bt368.2)) else (none)) else (none)))) = some (r1, r2) := H
   have A26 := Aside0.mk A260
   clear A260
   replace H := Option.bind_eq_some_iff.mp H
   obtain ⟨⟨t364, t365⟩, A270, H⟩ := H
   replace H : ((spec_WideAdd.f kj3 t358 t359 t364 t365).bind fun bt368 => (if 0 ≤ a1 then (if (a1 : Int).toNat ≤ 35184372088832 then ((some (List.replicate (a1 : Int).toNat 0 : List Int)).bind fun y372 => (spec_ToWords.l0 kj3 x7_3 y372 (y372.length : Int) 0 bt368.1 bt368.2)) else (none)) else (none))) = some (r1, r2) := H
   have A27 := Aside0.mk A270
   clear A270
   replace H := Option.bind_eq_some_iff.mp H
   obtain ⟨⟨t368, t369⟩, A280, H⟩ := H
   replace H : (if 0 ≤ a1 then (if (a1 : Int).toNat ≤ 35184372088832 then ((some (List.replicate (a1 : Int).toNat 0 : List Int)).bind fun y372 => (spec_ToWords.l0 kj3 x7_3 y372 (y372.length : Int) 0 t368 t369)) else (none)) else (none)) = some (r1, r2) := H
   have A28 := Aside0.mk A280
   clear A280
   by_cases c29 : 0 ≤ a1
   ·rw [if_pos c29] at H
    have c29b0 := eq_true c29
    have c29b1 : decide (0 ≤ a1) = true := decide_eq_true c29
    clear c29
    by_cases c30 : (a1 : Int).toNat ≤ 35184372088832
    ·rw [if_pos c30] at H
     have c30b0 := eq_true c30
     have c30b1 : decide ((a1 : Int).toNat ≤ 35184372088832) = true := decide_eq_true c30
     clear c30
     obtain ⟨y372, hy372⟩ : ∃ y_ : List Int, y_ = (List.replicate (a1 : Int).toNat 0) := ⟨_, rfl⟩
     replace H : (spec_ToWords.l0 kj3 x7_3 y372 (y372.length : Int) 0 t368 t369) = some (r1, r2) := by first | (rw [hy372]; with_reducible exact H) | (have H2_ := (Option.bind_some _ _).symm.trans H; rw [hy372]; with_reducible exact H2_) | (have H2_ := (Option.bind_some _ _).symm.trans H; with_reducible exact H2_) | with_reducible exact H | (rw [hy372]; exact H) | exact H
     have Ny372 := Aside0.mk hy372
     clear hy372
     have H' := Aside0.mk H
     clear H
     have hnb31 := NB338_343.out
     have hnc31 := NB343_338.out
     have hcz32_0 : wc.cell? ⟨gb338, 0, none⟩ = some (.bool true) := (blk_cell BK338.out 0).trans rfl
     have hcz32_1 : wc.cell? ⟨gb338, 1, none⟩ = some (.slice A0_1 l0_1.length c0_1) := (blk_cell BK338.out 1).trans rfl
     have hfz32_0 := blk_frozen BK338.out 0
     have hfz32_1 := blk_frozen BK338.out 1
     try go_wp2
     have n0_ := Aside0.mk (Kd.V_drew HO_344001.out)
     have n1_ := Aside0.mk (blk_drew BK338.out)
     have n2_ := Aside0.mk (blk_drew BK343.out)
     have n3_ := Aside0.mk (below_drew1 HB.out)
     clear HO_344001 BK338 BK343 HB
     have HO_344001 := n0_
     have BK338 := n1_
     have BK343 := n2_
     have HB := n3_
     clear n0_ n1_ n2_ n3_
     refine start_ (n := 12) (S := fun w' => w'.cell? ⟨gb338, 0, none⟩ = some (.bool true) ∧ w'.cell? ⟨gb338, 1, none⟩ = some (.slice A0_1 l0_1.length c0_1)) (ds := []) #[false, false, false, false, false, false, false, false, false, false, false, false] (by kernel_rfl) rfl rfl ⟨(blk_cell BK338.out 0).trans rfl, (blk_cell BK338.out 1).trans rfl⟩ (fun hHeld => ?_); refine with_tabW spec_ToWords.tab4 spec_ToWords.bits4 (fun HT_ HW_ => ?_)
     generalize wc.drew = w33 at HO_344001 BK338 BK343 HB hHeld ⊢
     refine pure_ (i := 1) (N := some 32) (v := ?_) (a' := ?_) #[false, true, false, false, false, false, false, false, false, false, false, false] rfl rfl (any_of HT_.out (by kernel_rfl)) (fun _ _ _ h => h) (Or.inl ⟨by rfl, ?_⟩) ?_ ?_
     rotate_left
     ·intro w'
      go_simp
      with_reducible rfl
     rotate_left
     ·simp only [Act.put, List.setIfInBounds_toArray, List.set_cons_zero, List.set_cons_succ, i64_w, i32_w]
      rfl
     refine pure_ (i := 2) (N := some 33) (v := ?_) (a' := ?_) #[false, true, true, false, false, false, false, false, false, false, false, false] rfl rfl (any_of HT_.out (by kernel_rfl)) (fun _ _ _ h => h) (Or.inl ⟨by rfl, ?_⟩) ?_ ?_
     rotate_left
     ·intro w'
      go_simp
      with_reducible rfl
     rotate_left
     ·simp only [Act.put, List.setIfInBounds_toArray, List.set_cons_zero, List.set_cons_succ, i64_w, i32_w]
      rfl
     refine take_ (i := 0) (N := some 31) (v := ?_) (a' := ?_) #[true, true, true, false, false, false, false, false, false, false, false, false] rfl rfl (take_ofW HT_.out HW_.out (by kernel_rfl)) (fun _ _ _ h => h) (Or.inl ⟨by rfl, ?_⟩) hHeld ?_ ?_
     rotate_left
     ·rintro w' ⟨s0, s1⟩
      go_simp
      with_reducible rfl
     rotate_left
     ·simp only [Act.put, List.setIfInBounds_toArray, List.set_cons_zero, List.set_cons_succ, i64_w, i32_w]
      rfl
     refine join_ (σ := Value × Value × Value × Nat × Nat) 2 #[true, true, true, true, true, true, true, true, true, true, false, false] (fun s_ => [(34, .agg #[.bool t350, s_.1]), (35, .tuple #[.agg #[.bool t354, s_.2.1], .agg #[.bool t358, s_.2.2.1]]), (8, .pointer (some ⟨s_.2.2.2.1, 0, none⟩)), (9, .pointer (some ⟨s_.2.2.2.2, 0, none⟩)), (30, .tuple #[.agg #[.bool t354, s_.2.1], .agg #[.bool t358, s_.2.2.1]]), (36, .agg #[.bool t354, s_.2.1]), (37, .agg #[.bool t358, s_.2.2.1])]) (fun s_ w' => (w'.cell? ⟨gb338, 0, none⟩ = some (.bool true) ∧ w'.cell? ⟨gb338, 1, none⟩ = some (.slice A0_1 l0_1.length c0_1)) ∧ (Kd.V (Kd.int .u32) 22 w' w.heap.size (fun k_ => k_ ≠ gb338 ∧ k_ ≠ gb343 ∧ k_ ≠ s_.2.2.2.1 ∧ k_ ≠ s_.2.2.2.2) s_.1 t351) ∧ (Kd.V (Kd.int .u32) 22 w' w.heap.size (fun k_ => k_ ≠ gb338 ∧ k_ ≠ gb343 ∧ k_ ≠ s_.2.2.2.1 ∧ k_ ≠ s_.2.2.2.2) s_.2.1 t355) ∧ (Kd.V (Kd.int .u32) 22 w' w.heap.size (fun k_ => k_ ≠ gb338 ∧ k_ ≠ gb343 ∧ k_ ≠ s_.2.2.2.1 ∧ k_ ≠ s_.2.2.2.2) s_.2.2.1 t359) ∧ (Kd.V (Kd.int .u32) 22 w' w.heap.size (fun k_ => k_ ≠ gb338 ∧ k_ ≠ gb343 ∧ k_ ≠ s_.2.2.2.1 ∧ k_ ≠ s_.2.2.2.2) (.slice Ao10 t340.length co10) t340) ∧ (w'.heap[gb338]? = some (.cells #[.bool true, .slice A0_1 l0_1.length c0_1] 27 (0, 0))) ∧ (w'.heap[gb343]? = some (.cells #[.bool t339, .slice Ao10 t340.length co10] 27 (0, 0))) ∧ (w'.heap[s_.2.2.2.1]? = some (.cells #[.bool false, .slice none 0 0] 27 (0, 0))) ∧ (w'.heap[s_.2.2.2.2]? = some (.cells #[.bool false, .slice none 0 0] 27 (0, 0))) ∧ (w.heap.size ≤ s_.2.2.2.1) ∧ (w.heap.size ≤ s_.2.2.2.1) ∧ (gb338 ≠ s_.2.2.2.1) ∧ (s_.2.2.2.1 ≠ gb338) ∧ (gb343 ≠ s_.2.2.2.1) ∧ (s_.2.2.2.1 ≠ gb343) ∧ (s_.2.2.2.2 ≠ s_.2.2.2.1) ∧ (s_.2.2.2.1 ≠ s_.2.2.2.2) ∧ (w.heap.size ≤ s_.2.2.2.2) ∧ (w.heap.size ≤ s_.2.2.2.2) ∧ (gb338 ≠ s_.2.2.2.2) ∧ (s_.2.2.2.2 ≠ gb338) ∧ (gb343 ≠ s_.2.2.2.2) ∧ (s_.2.2.2.2 ≠ gb343) ∧ (Below w.heap.size w w')) ?_ ?_
     rotate_left
     ·intro hJ3_4_8_9
      refine join_ (σ := Value × Value × Value × Nat) 3 #[true, true, true, true, true, true, true, true, true, false, false, false] (fun s_ => [(34, .agg #[.bool t350, s_.1]), (35, .tuple #[.agg #[.bool t354, s_.2.1], .agg #[.bool t358, s_.2.2.1]]), (8, .pointer (some ⟨s_.2.2.2, 0, none⟩)), (30, .tuple #[.agg #[.bool t354, s_.2.1], .agg #[.bool t358, s_.2.2.1]]), (36, .agg #[.bool t354, s_.2.1]), (37, .agg #[.bool t358, s_.2.2.1])]) (fun s_ w' => (w'.cell? ⟨gb338, 0, none⟩ = some (.bool true) ∧ w'.cell? ⟨gb338, 1, none⟩ = some (.slice A0_1 l0_1.length c0_1)) ∧ (Kd.V (Kd.int .u32) 22 w' w.heap.size (fun k_ => k_ ≠ gb338 ∧ k_ ≠ gb343 ∧ k_ ≠ s_.2.2.2) s_.1 t351) ∧ (Kd.V (Kd.int .u32) 22 w' w.heap.size (fun k_ => k_ ≠ gb338 ∧ k_ ≠ gb343 ∧ k_ ≠ s_.2.2.2) s_.2.1 t355) ∧ (Kd.V (Kd.int .u32) 22 w' w.heap.size (fun k_ => k_ ≠ gb338 ∧ k_ ≠ gb343 ∧ k_ ≠ s_.2.2.2) s_.2.2.1 t359) ∧ (Kd.V (Kd.int .u32) 22 w' w.heap.size (fun k_ => k_ ≠ gb338 ∧ k_ ≠ gb343 ∧ k_ ≠ s_.2.2.2) (.slice Ao10 t340.length co10) t340) ∧ (w'.heap[gb338]? = some (.cells #[.bool true, .slice A0_1 l0_1.length c0_1] 27 (0, 0))) ∧ (w'.heap[gb343]? = some (.cells #[.bool t339, .slice Ao10 t340.length co10] 27 (0, 0))) ∧ (w'.heap[s_.2.2.2]? = some (.cells #[.bool false, .slice none 0 0] 27 (0, 0))) ∧ (w.heap.size ≤ s_.2.2.2) ∧ (w.heap.size ≤ s_.2.2.2) ∧ (gb338 ≠ s_.2.2.2) ∧ (s_.2.2.2 ≠ gb338) ∧ (gb343 ≠ s_.2.2.2) ∧ (s_.2.2.2 ≠ gb343) ∧ (Below w.heap.size w w')) ?_ ?_
      rotate_left
      ·intro hJ3_4_8
       refine join_ (σ := Value × Value × Value × Nat) 3 #[true, true, true, true, true, true, true, true, false, true, false, false] (fun s_ => [(34, .agg #[.bool t350, s_.1]), (35, .tuple #[.agg #[.bool t354, s_.2.1], .agg #[.bool t358, s_.2.2.1]]), (9, .pointer (some ⟨s_.2.2.2, 0, none⟩)), (30, .tuple #[.agg #[.bool t354, s_.2.1], .agg #[.bool t358, s_.2.2.1]]), (36, .agg #[.bool t354, s_.2.1]), (37, .agg #[.bool t358, s_.2.2.1])]) (fun s_ w' => (w'.cell? ⟨gb338, 0, none⟩ = some (.bool true) ∧ w'.cell? ⟨gb338, 1, none⟩ = some (.slice A0_1 l0_1.length c0_1)) ∧ (Kd.V (Kd.int .u32) 22 w' w.heap.size (fun k_ => k_ ≠ gb338 ∧ k_ ≠ gb343 ∧ k_ ≠ s_.2.2.2) s_.1 t351) ∧ (Kd.V (Kd.int .u32) 22 w' w.heap.size (fun k_ => k_ ≠ gb338 ∧ k_ ≠ gb343 ∧ k_ ≠ s_.2.2.2) s_.2.1 t355) ∧ (Kd.V (Kd.int .u32) 22 w' w.heap.size (fun k_ => k_ ≠ gb338 ∧ k_ ≠ gb343 ∧ k_ ≠ s_.2.2.2) s_.2.2.1 t359) ∧ (Kd.V (Kd.int .u32) 22 w' w.heap.size (fun k_ => k_ ≠ gb338 ∧ k_ ≠ gb343 ∧ k_ ≠ s_.2.2.2) (.slice Ao10 t340.length co10) t340) ∧ (w'.heap[gb338]? = some (.cells #[.bool true, .slice A0_1 l0_1.length c0_1] 27 (0, 0))) ∧ (w'.heap[gb343]? = some (.cells #[.bool t339, .slice Ao10 t340.length co10] 27 (0, 0))) ∧ (w'.heap[s_.2.2.2]? = some (.cells #[.bool false, .slice none 0 0] 27 (0, 0))) ∧ (w.heap.size ≤ s_.2.2.2) ∧ (w.heap.size ≤ s_.2.2.2) ∧ (gb338 ≠ s_.2.2.2) ∧ (s_.2.2.2 ≠ gb338) ∧ (gb343 ≠ s_.2.2.2) ∧ (s_.2.2.2 ≠ gb343) ∧ (Below w.heap.size w w')) ?_ ?_
       rotate_left
       ·intro hJ3_4_9
        refine join_ (σ := Value × Nat × Nat) 6 #[true, true, true, true, false, false, false, false, true, true, false, false] (fun s_ => [(34, .agg #[.bool t350, s_.1]), (8, .pointer (some ⟨s_.2.1, 0, none⟩)), (9, .pointer (some ⟨s_.2.2, 0, none⟩))]) (fun s_ w' => (w'.cell? ⟨gb338, 0, none⟩ = some (.bool true) ∧ w'.cell? ⟨gb338, 1, none⟩ = some (.slice A0_1 l0_1.length c0_1)) ∧ (Kd.V (Kd.int .u32) 22 w' w.heap.size (fun k_ => k_ ≠ gb338 ∧ k_ ≠ gb343 ∧ k_ ≠ s_.2.1 ∧ k_ ≠ s_.2.2) s_.1 t351) ∧ (Kd.V (Kd.int .u32) 22 w' w.heap.size (fun k_ => k_ ≠ gb338 ∧ k_ ≠ gb343 ∧ k_ ≠ s_.2.1 ∧ k_ ≠ s_.2.2) (.slice Ao10 t340.length co10) t340) ∧ (w'.heap[gb338]? = some (.cells #[.bool true, .slice A0_1 l0_1.length c0_1] 27 (0, 0))) ∧ (w'.heap[gb343]? = some (.cells #[.bool t339, .slice Ao10 t340.length co10] 27 (0, 0))) ∧ (w'.heap[s_.2.1]? = some (.cells #[.bool false, .slice none 0 0] 27 (0, 0))) ∧ (w'.heap[s_.2.2]? = some (.cells #[.bool false, .slice none 0 0] 27 (0, 0))) ∧ (w.heap.size ≤ s_.2.1) ∧ (w.heap.size ≤ s_.2.1) ∧ (gb338 ≠ s_.2.1) ∧ (s_.2.1 ≠ gb338) ∧ (gb343 ≠ s_.2.1) ∧ (s_.2.1 ≠ gb343) ∧ (s_.2.2 ≠ s_.2.1) ∧ (s_.2.1 ≠ s_.2.2) ∧ (w.heap.size ≤ s_.2.2) ∧ (w.heap.size ≤ s_.2.2) ∧ (gb338 ≠ s_.2.2) ∧ (s_.2.2 ≠ gb338) ∧ (gb343 ≠ s_.2.2) ∧ (s_.2.2 ≠ gb343) ∧ (Below w.heap.size w w')) ?_ ?_
        rotate_left
        ·intro hJ3_8_9
         refine join_ (σ := Value × Value × Value) 4 #[true, true, true, true, true, true, true, true, false, false, false, false] (fun s_ => [(34, .agg #[.bool t350, s_.1]), (35, .tuple #[.agg #[.bool t354, s_.2.1], .agg #[.bool t358, s_.2.2]]), (30, .tuple #[.agg #[.bool t354, s_.2.1], .agg #[.bool t358, s_.2.2]]), (36, .agg #[.bool t354, s_.2.1]), (37, .agg #[.bool t358, s_.2.2])]) (fun s_ w' => (w'.cell? ⟨gb338, 0, none⟩ = some (.bool true) ∧ w'.cell? ⟨gb338, 1, none⟩ = some (.slice A0_1 l0_1.length c0_1)) ∧ (Kd.V (Kd.int .u32) 22 w' w.heap.size (fun k_ => k_ ≠ gb338 ∧ k_ ≠ gb343) s_.1 t351) ∧ (Kd.V (Kd.int .u32) 22 w' w.heap.size (fun k_ => k_ ≠ gb338 ∧ k_ ≠ gb343) s_.2.1 t355) ∧ (Kd.V (Kd.int .u32) 22 w' w.heap.size (fun k_ => k_ ≠ gb338 ∧ k_ ≠ gb343) s_.2.2 t359) ∧ (Kd.V (Kd.int .u32) 22 w' w.heap.size (fun k_ => k_ ≠ gb338 ∧ k_ ≠ gb343) (.slice Ao10 t340.length co10) t340) ∧ (w'.heap[gb338]? = some (.cells #[.bool true, .slice A0_1 l0_1.length c0_1] 27 (0, 0))) ∧ (w'.heap[gb343]? = some (.cells #[.bool t339, .slice Ao10 t340.length co10] 27 (0, 0))) ∧ (Below w.heap.size w w')) ?_ ?_
         rotate_left
         ·intro hJ3_4
          refine join_ (σ := Value × Nat) 7 #[true, true, true, true, false, false, false, false, true, false, false, false] (fun s_ => [(34, .agg #[.bool t350, s_.1]), (8, .pointer (some ⟨s_.2, 0, none⟩))]) (fun s_ w' => (w'.cell? ⟨gb338, 0, none⟩ = some (.bool true) ∧ w'.cell? ⟨gb338, 1, none⟩ = some (.slice A0_1 l0_1.length c0_1)) ∧ (Kd.V (Kd.int .u32) 22 w' w.heap.size (fun k_ => k_ ≠ gb338 ∧ k_ ≠ gb343 ∧ k_ ≠ s_.2) s_.1 t351) ∧ (Kd.V (Kd.int .u32) 22 w' w.heap.size (fun k_ => k_ ≠ gb338 ∧ k_ ≠ gb343 ∧ k_ ≠ s_.2) (.slice Ao10 t340.length co10) t340) ∧ (w'.heap[gb338]? = some (.cells #[.bool true, .slice A0_1 l0_1.length c0_1] 27 (0, 0))) ∧ (w'.heap[gb343]? = some (.cells #[.bool t339, .slice Ao10 t340.length co10] 27 (0, 0))) ∧ (w'.heap[s_.2]? = some (.cells #[.bool false, .slice none 0 0] 27 (0, 0))) ∧ (w.heap.size ≤ s_.2) ∧ (w.heap.size ≤ s_.2) ∧ (gb338 ≠ s_.2) ∧ (s_.2 ≠ gb338) ∧ (gb343 ≠ s_.2) ∧ (s_.2 ≠ gb343) ∧ (Below w.heap.size w w')) ?_ ?_
          rotate_left
          ·intro hJ3_8
           refine join_ (σ := Value × Nat) 7 #[true, true, true, true, false, false, false, false, false, true, false, false] (fun s_ => [(34, .agg #[.bool t350, s_.1]), (9, .pointer (some ⟨s_.2, 0, none⟩))]) (fun s_ w' => (w'.cell? ⟨gb338, 0, none⟩ = some (.bool true) ∧ w'.cell? ⟨gb338, 1, none⟩ = some (.slice A0_1 l0_1.length c0_1)) ∧ (Kd.V (Kd.int .u32) 22 w' w.heap.size (fun k_ => k_ ≠ gb338 ∧ k_ ≠ gb343 ∧ k_ ≠ s_.2) s_.1 t351) ∧ (Kd.V (Kd.int .u32) 22 w' w.heap.size (fun k_ => k_ ≠ gb338 ∧ k_ ≠ gb343 ∧ k_ ≠ s_.2) (.slice Ao10 t340.length co10) t340) ∧ (w'.heap[gb338]? = some (.cells #[.bool true, .slice A0_1 l0_1.length c0_1] 27 (0, 0))) ∧ (w'.heap[gb343]? = some (.cells #[.bool t339, .slice Ao10 t340.length co10] 27 (0, 0))) ∧ (w'.heap[s_.2]? = some (.cells #[.bool false, .slice none 0 0] 27 (0, 0))) ∧ (w.heap.size ≤ s_.2) ∧ (w.heap.size ≤ s_.2) ∧ (gb338 ≠ s_.2) ∧ (s_.2 ≠ gb338) ∧ (gb343 ≠ s_.2) ∧ (s_.2 ≠ gb343) ∧ (Below w.heap.size w w')) ?_ ?_
           rotate_left
           ·intro hJ3_9
            refine join_ (σ := Nat × Nat) 7 #[true, true, true, false, false, false, false, false, true, true, false, false] (fun s_ => [(8, .pointer (some ⟨s_.1, 0, none⟩)), (9, .pointer (some ⟨s_.2, 0, none⟩))]) (fun s_ w' => (w'.cell? ⟨gb338, 0, none⟩ = some (.bool true) ∧ w'.cell? ⟨gb338, 1, none⟩ = some (.slice A0_1 l0_1.length c0_1)) ∧ (Kd.V (Kd.int .u32) 22 w' w.heap.size (fun k_ => k_ ≠ gb338 ∧ k_ ≠ gb343 ∧ k_ ≠ s_.1 ∧ k_ ≠ s_.2) (.slice Ao10 t340.length co10) t340) ∧ (w'.heap[gb338]? = some (.cells #[.bool true, .slice A0_1 l0_1.length c0_1] 27 (0, 0))) ∧ (w'.heap[gb343]? = some (.cells #[.bool t339, .slice Ao10 t340.length co10] 27 (0, 0))) ∧ (w'.heap[s_.1]? = some (.cells #[.bool false, .slice none 0 0] 27 (0, 0))) ∧ (w'.heap[s_.2]? = some (.cells #[.bool false, .slice none 0 0] 27 (0, 0))) ∧ (w.heap.size ≤ s_.1) ∧ (w.heap.size ≤ s_.1) ∧ (gb338 ≠ s_.1) ∧ (s_.1 ≠ gb338) ∧ (gb343 ≠ s_.1) ∧ (s_.1 ≠ gb343) ∧ (s_.2 ≠ s_.1) ∧ (s_.1 ≠ s_.2) ∧ (w.heap.size ≤ s_.2) ∧ (w.heap.size ≤ s_.2) ∧ (gb338 ≠ s_.2) ∧ (s_.2 ≠ gb338) ∧ (gb343 ≠ s_.2) ∧ (s_.2 ≠ gb343) ∧ (Below w.heap.size w w')) ?_ ?_
            rotate_left
            ·intro hJ8_9
             refine join_ (σ := Value) 8 #[true, true, true, true, false, false, false, false, false, false, false, false] (fun s_ => [(34, .agg #[.bool t350, s_])]) (fun s_ w' => (w'.cell? ⟨gb338, 0, none⟩ = some (.bool true) ∧ w'.cell? ⟨gb338, 1, none⟩ = some (.slice A0_1 l0_1.length c0_1)) ∧ (Kd.V (Kd.int .u32) 22 w' w.heap.size (fun k_ => k_ ≠ gb338 ∧ k_ ≠ gb343) s_ t351) ∧ (Kd.V (Kd.int .u32) 22 w' w.heap.size (fun k_ => k_ ≠ gb338 ∧ k_ ≠ gb343) (.slice Ao10 t340.length co10) t340) ∧ (w'.heap[gb338]? = some (.cells #[.bool true, .slice A0_1 l0_1.length c0_1] 27 (0, 0))) ∧ (w'.heap[gb343]? = some (.cells #[.bool t339, .slice Ao10 t340.length co10] 27 (0, 0))) ∧ (Below w.heap.size w w')) ?_ ?_
             rotate_left
             ·intro hJ3
              refine join_ (σ := Nat) 8 #[true, true, true, false, false, false, false, false, true, false, false, false] (fun s_ => [(8, .pointer (some ⟨s_, 0, none⟩))]) (fun s_ w' => (w'.cell? ⟨gb338, 0, none⟩ = some (.bool true) ∧ w'.cell? ⟨gb338, 1, none⟩ = some (.slice A0_1 l0_1.length c0_1)) ∧ (Kd.V (Kd.int .u32) 22 w' w.heap.size (fun k_ => k_ ≠ gb338 ∧ k_ ≠ gb343 ∧ k_ ≠ s_) (.slice Ao10 t340.length co10) t340) ∧ (w'.heap[gb338]? = some (.cells #[.bool true, .slice A0_1 l0_1.length c0_1] 27 (0, 0))) ∧ (w'.heap[gb343]? = some (.cells #[.bool t339, .slice Ao10 t340.length co10] 27 (0, 0))) ∧ (w'.heap[s_]? = some (.cells #[.bool false, .slice none 0 0] 27 (0, 0))) ∧ (w.heap.size ≤ s_) ∧ (w.heap.size ≤ s_) ∧ (gb338 ≠ s_) ∧ (s_ ≠ gb338) ∧ (gb343 ≠ s_) ∧ (s_ ≠ gb343) ∧ (Below w.heap.size w w')) ?_ ?_
              rotate_left
              ·intro hJ8
               refine join_ (σ := Nat) 8 #[true, true, true, false, false, false, false, false, false, true, false, false] (fun s_ => [(9, .pointer (some ⟨s_, 0, none⟩))]) (fun s_ w' => (w'.cell? ⟨gb338, 0, none⟩ = some (.bool true) ∧ w'.cell? ⟨gb338, 1, none⟩ = some (.slice A0_1 l0_1.length c0_1)) ∧ (Kd.V (Kd.int .u32) 22 w' w.heap.size (fun k_ => k_ ≠ gb338 ∧ k_ ≠ gb343 ∧ k_ ≠ s_) (.slice Ao10 t340.length co10) t340) ∧ (w'.heap[gb338]? = some (.cells #[.bool true, .slice A0_1 l0_1.length c0_1] 27 (0, 0))) ∧ (w'.heap[gb343]? = some (.cells #[.bool t339, .slice Ao10 t340.length co10] 27 (0, 0))) ∧ (w'.heap[s_]? = some (.cells #[.bool false, .slice none 0 0] 27 (0, 0))) ∧ (w.heap.size ≤ s_) ∧ (w.heap.size ≤ s_) ∧ (gb338 ≠ s_) ∧ (s_ ≠ gb338) ∧ (gb343 ≠ s_) ∧ (s_ ≠ gb343) ∧ (Below w.heap.size w w')) ?_ ?_
               rotate_left
               ·intro hJ9
                refine three_ (i := 3) (j := 8) (k := 9) (Ni := some 34) (Nj := some 8) (Nk := some 9) #[true, true, true, true, false, false, false, false, false, false, false, false] #[true, true, true, false, false, false, false, false, true, false, false, false] #[true, true, true, false, false, false, false, false, false, true, false, false] rfl rfl rfl rfl rfl rfl (three_of HT_.out (by kernel_rfl)) (by decide) (by decide) (by decide) (fun K hK => ?_) (fun K hK => ?_) (fun K hK => ?_)
                ·skip
                 refine goes_ Tryz.func13 (by kernel_rfl) rfl #[.int .i64 (wrap64 (64 * a1))] (by rfl) rfl rfl (by (try simp only [List.map_toArray, List.map_cons, List.map_nil]); first | done | rfl | (simp only [List.length_drop, List.length_take]; rfl)) ?_
                 with_reducible refine (spec_Two.calls kj3 (wrap64 (64 * a1)) t350 t351 _ A25.out).mono ?_
                 rintro e w34 ⟨v352, rfl, ho0, hb⟩
                 refine ⟨_, rfl, ?_⟩
                 have n0_ := Aside0.mk (Kd.V_below (by (with_reducible repeat (first | apply Kd.V_alloc | apply Kd.V_drewN | apply Kd.V_drew)); exact HO_344001.out) hb)
                 have n1_ := Aside0.mk (Kd.V_lower (Kd.V_mono (ok' := fun k_ => k_ ≠ gb338 ∧ k_ ≠ gb343) ho0 (fun k_ hk_ => ⟨(Kd.freshB (g := gb338) (o := .cells #[.bool true, .slice A0_1 l0_1.length c0_1] 27 (0, 0)) (by (with_reducible repeat (first | refine blk_drewN ?_ _ | refine blk_drew ?_ | refine blk_alloc ?_ _)); exact BK338.out) k_ hk_), (Kd.freshB (g := gb343) (o := .cells #[.bool t339, .slice Ao10 t340.length co10] 27 (0, 0)) (by (with_reducible repeat (first | refine blk_drewN ?_ _ | refine blk_drew ?_ | refine blk_alloc ?_ _)); exact BK343.out) k_ hk_)⟩)) (below_size (by repeat (first | (with_reducible first | exact HB.out | apply below_alloc | apply pw_below_drewN | apply below_drew1 | refine below_set ?_ GE338.out | refine below_set ?_ GE343.out) | exact HB.out))))
                 have n2_ := Aside0.mk (blk_below (g := gb338) (o := .cells #[.bool true, .slice A0_1 l0_1.length c0_1] 27 (0, 0)) (by (with_reducible repeat (first | refine blk_drewN ?_ _ | refine blk_drew ?_ | refine blk_alloc ?_ _)); exact BK338.out) hb)
                 have n3_ := Aside0.mk (blk_below (g := gb343) (o := .cells #[.bool t339, .slice Ao10 t340.length co10] 27 (0, 0)) (by (with_reducible repeat (first | refine blk_drewN ?_ _ | refine blk_drew ?_ | refine blk_alloc ?_ _)); exact BK343.out) hb)
                 have n4_ := Aside0.mk (below_step (by repeat (first | (with_reducible first | exact HB.out | apply below_alloc | apply pw_below_drewN | apply below_drew1 | refine below_set ?_ GE338.out | refine below_set ?_ GE343.out) | exact HB.out)) hb)
                 clear HO_344001 BK338 BK343 HB
                 have HO_344001 := n0_
                 have HO353 := n1_
                 have BK338 := n2_
                 have BK343 := n3_
                 have HB := n4_
                 clear n0_ n1_ n2_ n3_ n4_
                 (try clear hb)
                 (try clear hb2)
                 (try clear hk)
                 (try clear hi)
                 (try clear ho0)
                 refine hK.out _ _ ⟨(blk_cell BK338.out 0).trans rfl, (blk_cell BK338.out 1).trans rfl⟩ (fun hHeld => ?_)
                 clear hK K
                 refine norm_ (a' := ?_) ?_ ?_
                 rotate_left
                 ·show Act.put _ (some 34) _ = _
                  simp only [Act.put, List.setIfInBounds_toArray, List.set_cons_zero, List.set_cons_succ, i64_w, i32_w]
                  rfl
                 exact norm_ (by first | (simp only [putAll, Act.put, List.setIfInBounds_toArray, List.set_cons_zero, List.set_cons_succ]; done) | (simp only [putAll, Act.put, List.setIfInBounds_toArray, List.set_cons_zero, List.set_cons_succ]; rfl)) (hJ3 (v352) _ ⟨hHeld, (by (with_reducible repeat (first | apply Kd.V_alloc | apply Kd.V_drewN | apply Kd.V_drew)); exact HO353.out), (by (with_reducible repeat (first | apply Kd.V_alloc | apply Kd.V_drewN | apply Kd.V_drew)); exact HO_344001.out), (by (with_reducible repeat (first | refine blk_drewN ?_ _ | refine blk_drew ?_ | refine blk_alloc ?_ _)); exact BK338.out), (by (with_reducible repeat (first | refine blk_drewN ?_ _ | refine blk_drew ?_ | refine blk_alloc ?_ _)); exact BK343.out), (by repeat (first | (with_reducible first | exact HB.out | apply below_alloc | apply pw_below_drewN | apply below_drew1 | refine below_set ?_ GE338.out | refine below_set ?_ GE343.out) | exact HB.out))⟩)
                ·skip
                 refine box_step ?hg (N := 8) ?hd (cs := #[.bool false, .slice none 0 0]) (t := 27) ?hr ?_; (case hd => rfl); (case hg => rfl); (case hr => first | (go_simp; done) | (go_simp; rfl))
                 intro gb362 hg w34 hbox hb
                 have n0_ := Aside0.mk (Kd.V_below (Kd.V_elderB (by (with_reducible repeat (first | apply Kd.V_alloc | apply Kd.V_drewN | apply Kd.V_drew)); exact HO_344001.out) gb362 (Nat.le_of_eq hg.symm)) hb)
                 have n1_ := Aside0.mk (blk_below (g := gb338) (o := .cells #[.bool true, .slice A0_1 l0_1.length c0_1] 27 (0, 0)) (by (with_reducible repeat (first | refine blk_drewN ?_ _ | refine blk_drew ?_ | refine blk_alloc ?_ _)); exact BK338.out) hb)
                 have n2_ := Aside0.mk (blk_below (g := gb343) (o := .cells #[.bool t339, .slice Ao10 t340.length co10] 27 (0, 0)) (by (with_reducible repeat (first | refine blk_drewN ?_ _ | refine blk_drew ?_ | refine blk_alloc ?_ _)); exact BK343.out) hb)
                 have n3_ := Aside0.mk (below_step (by repeat (first | (with_reducible first | exact HB.out | apply below_alloc | apply pw_below_drewN | apply below_drew1 | refine below_set ?_ GE338.out | refine below_set ?_ GE343.out) | exact HB.out)) hb)
                 have n4_ := Aside0.mk (hbox)
                 have n5_ := Aside0.mk ((by rw [hg]; exact (below_size (by repeat (first | (with_reducible first | exact HB.out | apply below_alloc | apply pw_below_drewN | apply below_drew1 | refine below_set ?_ GE338.out | refine below_set ?_ GE343.out) | exact HB.out))) : w.heap.size ≤ gb362))
                 have n6_ := Aside0.mk ((by rw [hg]; exact (below_size (by repeat (first | (with_reducible first | exact HB.out | apply below_alloc | apply pw_below_drewN | apply below_drew1 | refine below_set ?_ GE338.out | refine below_set ?_ GE343.out) | exact HB.out))) : w.heap.size ≤ gb362))
                 have n7_ := Aside0.mk ((by rw [hg]; exact Nat.ne_of_lt (blk_lt (g := gb338) (o := .cells #[.bool true, .slice A0_1 l0_1.length c0_1] 27 (0, 0)) (by (with_reducible repeat (first | refine blk_drewN ?_ _ | refine blk_drew ?_ | refine blk_alloc ?_ _)); exact BK338.out)) : gb338 ≠ gb362))
                 have n8_ := Aside0.mk ((by rw [hg]; exact Nat.ne_of_gt (blk_lt (g := gb338) (o := .cells #[.bool true, .slice A0_1 l0_1.length c0_1] 27 (0, 0)) (by (with_reducible repeat (first | refine blk_drewN ?_ _ | refine blk_drew ?_ | refine blk_alloc ?_ _)); exact BK338.out)) : gb362 ≠ gb338))
                 have n9_ := Aside0.mk ((by rw [hg]; exact Nat.ne_of_lt (blk_lt (g := gb343) (o := .cells #[.bool t339, .slice Ao10 t340.length co10] 27 (0, 0)) (by (with_reducible repeat (first | refine blk_drewN ?_ _ | refine blk_drew ?_ | refine blk_alloc ?_ _)); exact BK343.out)) : gb343 ≠ gb362))
                 have n10_ := Aside0.mk ((by rw [hg]; exact Nat.ne_of_gt (blk_lt (g := gb343) (o := .cells #[.bool t339, .slice Ao10 t340.length co10] 27 (0, 0)) (by (with_reducible repeat (first | refine blk_drewN ?_ _ | refine blk_drew ?_ | refine blk_alloc ?_ _)); exact BK343.out)) : gb362 ≠ gb343))
                 clear HO_344001 BK338 BK343 HB
                 have HO_344001 := n0_
                 have BK338 := n1_
                 have BK343 := n2_
                 have HB := n3_
                 have BK362 := n4_
                 have GW362 := n5_
                 have GE362 := n6_
                 have NB338_362 := n7_
                 have NB362_338 := n8_
                 have NB343_362 := n9_
                 have NB362_343 := n10_
                 clear n0_ n1_ n2_ n3_ n4_ n5_ n6_ n7_ n8_ n9_ n10_ hb hbox hg
                 refine hK.out _ _ ⟨(blk_cell BK338.out 0).trans rfl, (blk_cell BK338.out 1).trans rfl⟩ (fun hHeld => ?_)
                 clear hK K
                 refine norm_ (a' := ?_) ?_ ?_
                 rotate_left
                 ·show Act.put _ (some 8) _ = _
                  simp only [Act.put, List.setIfInBounds_toArray, List.set_cons_zero, List.set_cons_succ, i64_w, i32_w]
                  rfl
                 exact norm_ (by first | (simp only [putAll, Act.put, List.setIfInBounds_toArray, List.set_cons_zero, List.set_cons_succ]; done) | (simp only [putAll, Act.put, List.setIfInBounds_toArray, List.set_cons_zero, List.set_cons_succ]; rfl)) (hJ8 (gb362) _ ⟨hHeld, (by (with_reducible repeat (first | apply Kd.V_alloc | apply Kd.V_drewN | apply Kd.V_drew)); exact Kd.V_mono HO_344001.out (fun _ hk => ⟨hk.1.1, ⟨hk.1.2, hk.2⟩⟩)), (by (with_reducible repeat (first | refine blk_drewN ?_ _ | refine blk_drew ?_ | refine blk_alloc ?_ _)); exact BK338.out), (by (with_reducible repeat (first | refine blk_drewN ?_ _ | refine blk_drew ?_ | refine blk_alloc ?_ _)); exact BK343.out), (by (with_reducible repeat (first | refine blk_drewN ?_ _ | refine blk_drew ?_ | refine blk_alloc ?_ _)); exact BK362.out), GW362.out, GE362.out, NB338_362.out, NB362_338.out, NB343_362.out, NB362_343.out, (by repeat (first | (with_reducible first | exact HB.out | apply below_alloc | apply pw_below_drewN | apply below_drew1 | refine below_set ?_ GE338.out | refine below_set ?_ GE343.out | refine below_set ?_ GE362.out) | exact HB.out))⟩)
                ·skip
                 refine box_step ?hg (N := 9) ?hd (cs := #[.bool false, .slice none 0 0]) (t := 27) ?hr ?_; (case hd => rfl); (case hg => rfl); (case hr => first | (go_simp; done) | (go_simp; rfl))
                 intro gb363 hg w34 hbox hb
                 have n0_ := Aside0.mk (Kd.V_below (Kd.V_elderB (by (with_reducible repeat (first | apply Kd.V_alloc | apply Kd.V_drewN | apply Kd.V_drew)); exact HO_344001.out) gb363 (Nat.le_of_eq hg.symm)) hb)
                 have n1_ := Aside0.mk (blk_below (g := gb338) (o := .cells #[.bool true, .slice A0_1 l0_1.length c0_1] 27 (0, 0)) (by (with_reducible repeat (first | refine blk_drewN ?_ _ | refine blk_drew ?_ | refine blk_alloc ?_ _)); exact BK338.out) hb)
                 have n2_ := Aside0.mk (blk_below (g := gb343) (o := .cells #[.bool t339, .slice Ao10 t340.length co10] 27 (0, 0)) (by (with_reducible repeat (first | refine blk_drewN ?_ _ | refine blk_drew ?_ | refine blk_alloc ?_ _)); exact BK343.out) hb)
                 have n3_ := Aside0.mk (below_step (by repeat (first | (with_reducible first | exact HB.out | apply below_alloc | apply pw_below_drewN | apply below_drew1 | refine below_set ?_ GE338.out | refine below_set ?_ GE343.out) | exact HB.out)) hb)
                 have n4_ := Aside0.mk (hbox)
                 have n5_ := Aside0.mk ((by rw [hg]; exact (below_size (by repeat (first | (with_reducible first | exact HB.out | apply below_alloc | apply pw_below_drewN | apply below_drew1 | refine below_set ?_ GE338.out | refine below_set ?_ GE343.out) | exact HB.out))) : w.heap.size ≤ gb363))
                 have n6_ := Aside0.mk ((by rw [hg]; exact (below_size (by repeat (first | (with_reducible first | exact HB.out | apply below_alloc | apply pw_below_drewN | apply below_drew1 | refine below_set ?_ GE338.out | refine below_set ?_ GE343.out) | exact HB.out))) : w.heap.size ≤ gb363))
                 have n7_ := Aside0.mk ((by rw [hg]; exact Nat.ne_of_lt (blk_lt (g := gb338) (o := .cells #[.bool true, .slice A0_1 l0_1.length c0_1] 27 (0, 0)) (by (with_reducible repeat (first | refine blk_drewN ?_ _ | refine blk_drew ?_ | refine blk_alloc ?_ _)); exact BK338.out)) : gb338 ≠ gb363))
                 have n8_ := Aside0.mk ((by rw [hg]; exact Nat.ne_of_gt (blk_lt (g := gb338) (o := .cells #[.bool true, .slice A0_1 l0_1.length c0_1] 27 (0, 0)) (by (with_reducible repeat (first | refine blk_drewN ?_ _ | refine blk_drew ?_ | refine blk_alloc ?_ _)); exact BK338.out)) : gb363 ≠ gb338))
                 have n9_ := Aside0.mk ((by rw [hg]; exact Nat.ne_of_lt (blk_lt (g := gb343) (o := .cells #[.bool t339, .slice Ao10 t340.length co10] 27 (0, 0)) (by (with_reducible repeat (first | refine blk_drewN ?_ _ | refine blk_drew ?_ | refine blk_alloc ?_ _)); exact BK343.out)) : gb343 ≠ gb363))
                 have n10_ := Aside0.mk ((by rw [hg]; exact Nat.ne_of_gt (blk_lt (g := gb343) (o := .cells #[.bool t339, .slice Ao10 t340.length co10] 27 (0, 0)) (by (with_reducible repeat (first | refine blk_drewN ?_ _ | refine blk_drew ?_ | refine blk_alloc ?_ _)); exact BK343.out)) : gb363 ≠ gb343))
                 clear HO_344001 BK338 BK343 HB
                 have HO_344001 := n0_
                 have BK338 := n1_
                 have BK343 := n2_
                 have HB := n3_
                 have BK363 := n4_
                 have GW363 := n5_
                 have GE363 := n6_
                 have NB338_363 := n7_
                 have NB363_338 := n8_
                 have NB343_363 := n9_
                 have NB363_343 := n10_
                 clear n0_ n1_ n2_ n3_ n4_ n5_ n6_ n7_ n8_ n9_ n10_ hb hbox hg
                 refine hK.out _ _ ⟨(blk_cell BK338.out 0).trans rfl, (blk_cell BK338.out 1).trans rfl⟩ (fun hHeld => ?_)
                 clear hK K
                 refine norm_ (a' := ?_) ?_ ?_
                 rotate_left
                 ·show Act.put _ (some 9) _ = _
                  simp only [Act.put, List.setIfInBounds_toArray, List.set_cons_zero, List.set_cons_succ, i64_w, i32_w]
                  rfl
                 exact norm_ (by first | (simp only [putAll, Act.put, List.setIfInBounds_toArray, List.set_cons_zero, List.set_cons_succ]; done) | (simp only [putAll, Act.put, List.setIfInBounds_toArray, List.set_cons_zero, List.set_cons_succ]; rfl)) (hJ9 (gb363) _ ⟨hHeld, (by (with_reducible repeat (first | apply Kd.V_alloc | apply Kd.V_drewN | apply Kd.V_drew)); exact Kd.V_mono HO_344001.out (fun _ hk => ⟨hk.1.1, ⟨hk.1.2, hk.2⟩⟩)), (by (with_reducible repeat (first | refine blk_drewN ?_ _ | refine blk_drew ?_ | refine blk_alloc ?_ _)); exact BK338.out), (by (with_reducible repeat (first | refine blk_drewN ?_ _ | refine blk_drew ?_ | refine blk_alloc ?_ _)); exact BK343.out), (by (with_reducible repeat (first | refine blk_drewN ?_ _ | refine blk_drew ?_ | refine blk_alloc ?_ _)); exact BK363.out), GW363.out, GE363.out, NB338_363.out, NB363_338.out, NB343_363.out, NB363_343.out, (by repeat (first | (with_reducible first | exact HB.out | apply below_alloc | apply pw_below_drewN | apply below_drew1 | refine below_set ?_ GE338.out | refine below_set ?_ GE343.out | refine below_set ?_ GE363.out) | exact HB.out))⟩)
               ·skip
                rintro gb363 w35 ⟨hS_, h0_, h1_, h2_, h3_, h4_, h5_, h6_, h7_, h8_, h9_, h10_⟩
                have n0_ : Aside0 (Kd.V (Kd.int .u32) 22 w35 w.heap.size (fun k_ => k_ ≠ gb338 ∧ k_ ≠ gb343 ∧ k_ ≠ gb363) (.slice Ao10 t340.length co10) t340) := ⟨h0_⟩
                have n1_ : Aside0 (w35.heap[gb338]? = some (.cells #[.bool true, .slice A0_1 l0_1.length c0_1] 27 (0, 0))) := ⟨h1_⟩
                have n2_ : Aside0 (w35.heap[gb343]? = some (.cells #[.bool t339, .slice Ao10 t340.length co10] 27 (0, 0))) := ⟨h2_⟩
                have n3_ : Aside0 (w35.heap[gb363]? = some (.cells #[.bool false, .slice none 0 0] 27 (0, 0))) := ⟨h3_⟩
                have n4_ : Aside0 (w.heap.size ≤ gb363) := ⟨h4_⟩
                have n5_ : Aside0 (w.heap.size ≤ gb363) := ⟨h5_⟩
                have n6_ : Aside0 (gb338 ≠ gb363) := ⟨h6_⟩
                have n7_ : Aside0 (gb363 ≠ gb338) := ⟨h7_⟩
                have n8_ : Aside0 (gb343 ≠ gb363) := ⟨h8_⟩
                have n9_ : Aside0 (gb363 ≠ gb343) := ⟨h9_⟩
                have n10_ : Aside0 (Below w.heap.size w w35) := ⟨h10_⟩
                clear HO_344001 BK338 BK343 HB h0_ h1_ h2_ h3_ h4_ h5_ h6_ h7_ h8_ h9_ h10_
                have HO_344001 := n0_
                have BK338 := n1_
                have BK343 := n2_
                have BK363 := n3_
                have GW363 := n4_
                have GE363 := n5_
                have NB338_363 := n6_
                have NB363_338 := n7_
                have NB343_363 := n8_
                have NB363_343 := n9_
                have HB := n10_
                clear n0_ n1_ n2_ n3_ n4_ n5_ n6_ n7_ n8_ n9_ n10_
                have hHeld : w35.cell? ⟨gb338, 0, none⟩ = some (.bool true) ∧ w35.cell? ⟨gb338, 1, none⟩ = some (.slice A0_1 l0_1.length c0_1) := hS_
                refine norm_ (a' := ?_) ?_ ?_
                rotate_left
                ·simp only [putAll, Act.put, List.setIfInBounds_toArray, List.set_cons_zero, List.set_cons_succ]
                 rfl
                refine two_ (i := 3) (j := 8) (Ni := some 34) (Nj := some 8) #[true, true, true, true, false, false, false, false, false, true, false, false] #[true, true, true, false, false, false, false, false, true, true, false, false] rfl rfl rfl rfl (two_of HT_.out (by kernel_rfl)) (by decide) (by decide) (fun K hK => ?_) (fun K hK => ?_)
                ·skip
                 refine goes_ Tryz.func13 (by kernel_rfl) rfl #[.int .i64 (wrap64 (64 * a1))] (by rfl) rfl rfl (by (try simp only [List.map_toArray, List.map_cons, List.map_nil]); first | done | rfl | (simp only [List.length_drop, List.length_take]; rfl)) ?_
                 with_reducible refine (spec_Two.calls kj3 (wrap64 (64 * a1)) t350 t351 _ A25.out).mono ?_
                 rintro e w36 ⟨v352, rfl, ho0, hb⟩
                 refine ⟨_, rfl, ?_⟩
                 have n0_ := Aside0.mk (Kd.V_below (by (with_reducible repeat (first | apply Kd.V_alloc | apply Kd.V_drewN | apply Kd.V_drew)); exact HO_344001.out) hb)
                 have n1_ := Aside0.mk (Kd.V_lower (Kd.V_mono (ok' := fun k_ => k_ ≠ gb338 ∧ k_ ≠ gb343 ∧ k_ ≠ gb363) ho0 (fun k_ hk_ => ⟨(Kd.freshB (g := gb338) (o := .cells #[.bool true, .slice A0_1 l0_1.length c0_1] 27 (0, 0)) (by (with_reducible repeat (first | refine blk_drewN ?_ _ | refine blk_drew ?_ | refine blk_alloc ?_ _)); exact BK338.out) k_ hk_), (Kd.freshB (g := gb343) (o := .cells #[.bool t339, .slice Ao10 t340.length co10] 27 (0, 0)) (by (with_reducible repeat (first | refine blk_drewN ?_ _ | refine blk_drew ?_ | refine blk_alloc ?_ _)); exact BK343.out) k_ hk_), (Kd.freshB (g := gb363) (o := .cells #[.bool false, .slice none 0 0] 27 (0, 0)) (by (with_reducible repeat (first | refine blk_drewN ?_ _ | refine blk_drew ?_ | refine blk_alloc ?_ _)); exact BK363.out) k_ hk_)⟩)) (below_size (by repeat (first | (with_reducible first | exact HB.out | apply below_alloc | apply pw_below_drewN | apply below_drew1 | refine below_set ?_ GE338.out | refine below_set ?_ GE343.out | refine below_set ?_ GE363.out) | exact HB.out))))
                 have n2_ := Aside0.mk (blk_below (g := gb338) (o := .cells #[.bool true, .slice A0_1 l0_1.length c0_1] 27 (0, 0)) (by (with_reducible repeat (first | refine blk_drewN ?_ _ | refine blk_drew ?_ | refine blk_alloc ?_ _)); exact BK338.out) hb)
                 have n3_ := Aside0.mk (blk_below (g := gb343) (o := .cells #[.bool t339, .slice Ao10 t340.length co10] 27 (0, 0)) (by (with_reducible repeat (first | refine blk_drewN ?_ _ | refine blk_drew ?_ | refine blk_alloc ?_ _)); exact BK343.out) hb)
                 have n4_ := Aside0.mk (blk_below (g := gb363) (o := .cells #[.bool false, .slice none 0 0] 27 (0, 0)) (by (with_reducible repeat (first | refine blk_drewN ?_ _ | refine blk_drew ?_ | refine blk_alloc ?_ _)); exact BK363.out) hb)
                 have n5_ := Aside0.mk (below_step (by repeat (first | (with_reducible first | exact HB.out | apply below_alloc | apply pw_below_drewN | apply below_drew1 | refine below_set ?_ GE338.out | refine below_set ?_ GE343.out | refine below_set ?_ GE363.out) | exact HB.out)) hb)
                 clear HO_344001 BK338 BK343 BK363 HB
                 have HO_344001 := n0_
                 have HO353 := n1_
                 have BK338 := n2_
                 have BK343 := n3_
                 have BK363 := n4_
                 have HB := n5_
                 clear n0_ n1_ n2_ n3_ n4_ n5_
                 (try clear hb)
                 (try clear hb2)
                 (try clear hk)
                 (try clear hi)
                 (try clear ho0)
                 refine hK.out _ _ ⟨(blk_cell BK338.out 0).trans rfl, (blk_cell BK338.out 1).trans rfl⟩ (fun hHeld => ?_)
                 clear hK K
                 refine norm_ (a' := ?_) ?_ ?_
                 rotate_left
                 ·show Act.put _ (some 34) _ = _
                  simp only [Act.put, List.setIfInBounds_toArray, List.set_cons_zero, List.set_cons_succ, i64_w, i32_w]
                  rfl
                 exact norm_ (by first | (simp only [putAll, Act.put, List.setIfInBounds_toArray, List.set_cons_zero, List.set_cons_succ]; done) | (simp only [putAll, Act.put, List.setIfInBounds_toArray, List.set_cons_zero, List.set_cons_succ]; rfl)) (hJ3_9 (v352, gb363) _ ⟨hHeld, (by (with_reducible repeat (first | apply Kd.V_alloc | apply Kd.V_drewN | apply Kd.V_drew)); exact HO353.out), (by (with_reducible repeat (first | apply Kd.V_alloc | apply Kd.V_drewN | apply Kd.V_drew)); exact HO_344001.out), (by (with_reducible repeat (first | refine blk_drewN ?_ _ | refine blk_drew ?_ | refine blk_alloc ?_ _)); exact BK338.out), (by (with_reducible repeat (first | refine blk_drewN ?_ _ | refine blk_drew ?_ | refine blk_alloc ?_ _)); exact BK343.out), (by (with_reducible repeat (first | refine blk_drewN ?_ _ | refine blk_drew ?_ | refine blk_alloc ?_ _)); exact BK363.out), GW363.out, GE363.out, NB338_363.out, NB363_338.out, NB343_363.out, NB363_343.out, (by repeat (first | (with_reducible first | exact HB.out | apply below_alloc | apply pw_below_drewN | apply below_drew1 | refine below_set ?_ GE338.out | refine below_set ?_ GE343.out | refine below_set ?_ GE363.out) | exact HB.out))⟩)
                ·skip
                 refine box_step ?hg (N := 8) ?hd (cs := #[.bool false, .slice none 0 0]) (t := 27) ?hr ?_; (case hd => rfl); (case hg => rfl); (case hr => first | (go_simp; done) | (go_simp; rfl))
                 intro gb362 hg w36 hbox hb
                 have n0_ := Aside0.mk (Kd.V_below (Kd.V_elderB (by (with_reducible repeat (first | apply Kd.V_alloc | apply Kd.V_drewN | apply Kd.V_drew)); exact HO_344001.out) gb362 (Nat.le_of_eq hg.symm)) hb)
                 have n1_ := Aside0.mk (blk_below (g := gb338) (o := .cells #[.bool true, .slice A0_1 l0_1.length c0_1] 27 (0, 0)) (by (with_reducible repeat (first | refine blk_drewN ?_ _ | refine blk_drew ?_ | refine blk_alloc ?_ _)); exact BK338.out) hb)
                 have n2_ := Aside0.mk (blk_below (g := gb343) (o := .cells #[.bool t339, .slice Ao10 t340.length co10] 27 (0, 0)) (by (with_reducible repeat (first | refine blk_drewN ?_ _ | refine blk_drew ?_ | refine blk_alloc ?_ _)); exact BK343.out) hb)
                 have n3_ := Aside0.mk (blk_below (g := gb363) (o := .cells #[.bool false, .slice none 0 0] 27 (0, 0)) (by (with_reducible repeat (first | refine blk_drewN ?_ _ | refine blk_drew ?_ | refine blk_alloc ?_ _)); exact BK363.out) hb)
                 have n4_ := Aside0.mk (below_step (by repeat (first | (with_reducible first | exact HB.out | apply below_alloc | apply pw_below_drewN | apply below_drew1 | refine below_set ?_ GE338.out | refine below_set ?_ GE343.out | refine below_set ?_ GE363.out) | exact HB.out)) hb)
                 have n5_ := Aside0.mk (hbox)
                 have n6_ := Aside0.mk ((by rw [hg]; exact (below_size (by repeat (first | (with_reducible first | exact HB.out | apply below_alloc | apply pw_below_drewN | apply below_drew1 | refine below_set ?_ GE338.out | refine below_set ?_ GE343.out | refine below_set ?_ GE363.out) | exact HB.out))) : w.heap.size ≤ gb362))
                 have n7_ := Aside0.mk ((by rw [hg]; exact (below_size (by repeat (first | (with_reducible first | exact HB.out | apply below_alloc | apply pw_below_drewN | apply below_drew1 | refine below_set ?_ GE338.out | refine below_set ?_ GE343.out | refine below_set ?_ GE363.out) | exact HB.out))) : w.heap.size ≤ gb362))
                 have n8_ := Aside0.mk ((by rw [hg]; exact Nat.ne_of_lt (blk_lt (g := gb338) (o := .cells #[.bool true, .slice A0_1 l0_1.length c0_1] 27 (0, 0)) (by (with_reducible repeat (first | refine blk_drewN ?_ _ | refine blk_drew ?_ | refine blk_alloc ?_ _)); exact BK338.out)) : gb338 ≠ gb362))
                 have n9_ := Aside0.mk ((by rw [hg]; exact Nat.ne_of_gt (blk_lt (g := gb338) (o := .cells #[.bool true, .slice A0_1 l0_1.length c0_1] 27 (0, 0)) (by (with_reducible repeat (first | refine blk_drewN ?_ _ | refine blk_drew ?_ | refine blk_alloc ?_ _)); exact BK338.out)) : gb362 ≠ gb338))
                 have n10_ := Aside0.mk ((by rw [hg]; exact Nat.ne_of_lt (blk_lt (g := gb343) (o := .cells #[.bool t339, .slice Ao10 t340.length co10] 27 (0, 0)) (by (with_reducible repeat (first | refine blk_drewN ?_ _ | refine blk_drew ?_ | refine blk_alloc ?_ _)); exact BK343.out)) : gb343 ≠ gb362))
                 have n11_ := Aside0.mk ((by rw [hg]; exact Nat.ne_of_gt (blk_lt (g := gb343) (o := .cells #[.bool t339, .slice Ao10 t340.length co10] 27 (0, 0)) (by (with_reducible repeat (first | refine blk_drewN ?_ _ | refine blk_drew ?_ | refine blk_alloc ?_ _)); exact BK343.out)) : gb362 ≠ gb343))
                 have n12_ := Aside0.mk ((by rw [hg]; exact Nat.ne_of_lt (blk_lt (g := gb363) (o := .cells #[.bool false, .slice none 0 0] 27 (0, 0)) (by (with_reducible repeat (first | refine blk_drewN ?_ _ | refine blk_drew ?_ | refine blk_alloc ?_ _)); exact BK363.out)) : gb363 ≠ gb362))
                 have n13_ := Aside0.mk ((by rw [hg]; exact Nat.ne_of_gt (blk_lt (g := gb363) (o := .cells #[.bool false, .slice none 0 0] 27 (0, 0)) (by (with_reducible repeat (first | refine blk_drewN ?_ _ | refine blk_drew ?_ | refine blk_alloc ?_ _)); exact BK363.out)) : gb362 ≠ gb363))
                 clear HO_344001 BK338 BK343 BK363 HB
                 have HO_344001 := n0_
                 have BK338 := n1_
                 have BK343 := n2_
                 have BK363 := n3_
                 have HB := n4_
                 have BK362 := n5_
                 have GW362 := n6_
                 have GE362 := n7_
                 have NB338_362 := n8_
                 have NB362_338 := n9_
                 have NB343_362 := n10_
                 have NB362_343 := n11_
                 have NB363_362 := n12_
                 have NB362_363 := n13_
                 clear n0_ n1_ n2_ n3_ n4_ n5_ n6_ n7_ n8_ n9_ n10_ n11_ n12_ n13_ hb hbox hg
                 refine hK.out _ _ ⟨(blk_cell BK338.out 0).trans rfl, (blk_cell BK338.out 1).trans rfl⟩ (fun hHeld => ?_)
                 clear hK K
                 refine norm_ (a' := ?_) ?_ ?_
                 rotate_left
                 ·show Act.put _ (some 8) _ = _
                  simp only [Act.put, List.setIfInBounds_toArray, List.set_cons_zero, List.set_cons_succ, i64_w, i32_w]
                  rfl
                 exact norm_ (by first | (simp only [putAll, Act.put, List.setIfInBounds_toArray, List.set_cons_zero, List.set_cons_succ]; done) | (simp only [putAll, Act.put, List.setIfInBounds_toArray, List.set_cons_zero, List.set_cons_succ]; rfl)) (hJ8_9 (gb362, gb363) _ ⟨hHeld, (by (with_reducible repeat (first | apply Kd.V_alloc | apply Kd.V_drewN | apply Kd.V_drew)); exact Kd.V_mono HO_344001.out (fun _ hk => ⟨hk.1.1, ⟨hk.1.2.1, ⟨hk.2, hk.1.2.2⟩⟩⟩)), (by (with_reducible repeat (first | refine blk_drewN ?_ _ | refine blk_drew ?_ | refine blk_alloc ?_ _)); exact BK338.out), (by (with_reducible repeat (first | refine blk_drewN ?_ _ | refine blk_drew ?_ | refine blk_alloc ?_ _)); exact BK343.out), (by (with_reducible repeat (first | refine blk_drewN ?_ _ | refine blk_drew ?_ | refine blk_alloc ?_ _)); exact BK362.out), (by (with_reducible repeat (first | refine blk_drewN ?_ _ | refine blk_drew ?_ | refine blk_alloc ?_ _)); exact BK363.out), GW362.out, GE362.out, NB338_362.out, NB362_338.out, NB343_362.out, NB362_343.out, NB363_362.out, NB362_363.out, GW363.out, GE363.out, NB338_363.out, NB363_338.out, NB343_363.out, NB363_343.out, (by repeat (first | (with_reducible first | exact HB.out | apply below_alloc | apply pw_below_drewN | apply below_drew1 | refine below_set ?_ GE338.out | refine below_set ?_ GE343.out | refine below_set ?_ GE363.out | refine below_set ?_ GE362.out) | exact HB.out))⟩)
              ·skip
               rintro gb362 w35 ⟨hS_, h0_, h1_, h2_, h3_, h4_, h5_, h6_, h7_, h8_, h9_, h10_⟩
               have n0_ : Aside0 (Kd.V (Kd.int .u32) 22 w35 w.heap.size (fun k_ => k_ ≠ gb338 ∧ k_ ≠ gb343 ∧ k_ ≠ gb362) (.slice Ao10 t340.length co10) t340) := ⟨h0_⟩
               have n1_ : Aside0 (w35.heap[gb338]? = some (.cells #[.bool true, .slice A0_1 l0_1.length c0_1] 27 (0, 0))) := ⟨h1_⟩
               have n2_ : Aside0 (w35.heap[gb343]? = some (.cells #[.bool t339, .slice Ao10 t340.length co10] 27 (0, 0))) := ⟨h2_⟩
               have n3_ : Aside0 (w35.heap[gb362]? = some (.cells #[.bool false, .slice none 0 0] 27 (0, 0))) := ⟨h3_⟩
               have n4_ : Aside0 (w.heap.size ≤ gb362) := ⟨h4_⟩
               have n5_ : Aside0 (w.heap.size ≤ gb362) := ⟨h5_⟩
               have n6_ : Aside0 (gb338 ≠ gb362) := ⟨h6_⟩
               have n7_ : Aside0 (gb362 ≠ gb338) := ⟨h7_⟩
               have n8_ : Aside0 (gb343 ≠ gb362) := ⟨h8_⟩
               have n9_ : Aside0 (gb362 ≠ gb343) := ⟨h9_⟩
               have n10_ : Aside0 (Below w.heap.size w w35) := ⟨h10_⟩
               clear HO_344001 BK338 BK343 HB h0_ h1_ h2_ h3_ h4_ h5_ h6_ h7_ h8_ h9_ h10_
               have HO_344001 := n0_
               have BK338 := n1_
               have BK343 := n2_
               have BK362 := n3_
               have GW362 := n4_
               have GE362 := n5_
               have NB338_362 := n6_
               have NB362_338 := n7_
               have NB343_362 := n8_
               have NB362_343 := n9_
               have HB := n10_
               clear n0_ n1_ n2_ n3_ n4_ n5_ n6_ n7_ n8_ n9_ n10_
               have hHeld : w35.cell? ⟨gb338, 0, none⟩ = some (.bool true) ∧ w35.cell? ⟨gb338, 1, none⟩ = some (.slice A0_1 l0_1.length c0_1) := hS_
               refine norm_ (a' := ?_) ?_ ?_
               rotate_left
               ·simp only [putAll, Act.put, List.setIfInBounds_toArray, List.set_cons_zero, List.set_cons_succ]
                rfl
               refine two_ (i := 3) (j := 9) (Ni := some 34) (Nj := some 9) #[true, true, true, true, false, false, false, false, true, false, false, false] #[true, true, true, false, false, false, false, false, true, true, false, false] rfl rfl rfl rfl (two_of HT_.out (by kernel_rfl)) (by decide) (by decide) (fun K hK => ?_) (fun K hK => ?_)
               ·skip
                refine goes_ Tryz.func13 (by kernel_rfl) rfl #[.int .i64 (wrap64 (64 * a1))] (by rfl) rfl rfl (by (try simp only [List.map_toArray, List.map_cons, List.map_nil]); first | done | rfl | (simp only [List.length_drop, List.length_take]; rfl)) ?_
                with_reducible refine (spec_Two.calls kj3 (wrap64 (64 * a1)) t350 t351 _ A25.out).mono ?_
                rintro e w36 ⟨v352, rfl, ho0, hb⟩
                refine ⟨_, rfl, ?_⟩
                have n0_ := Aside0.mk (Kd.V_below (by (with_reducible repeat (first | apply Kd.V_alloc | apply Kd.V_drewN | apply Kd.V_drew)); exact HO_344001.out) hb)
                have n1_ := Aside0.mk (Kd.V_lower (Kd.V_mono (ok' := fun k_ => k_ ≠ gb338 ∧ k_ ≠ gb343 ∧ k_ ≠ gb362) ho0 (fun k_ hk_ => ⟨(Kd.freshB (g := gb338) (o := .cells #[.bool true, .slice A0_1 l0_1.length c0_1] 27 (0, 0)) (by (with_reducible repeat (first | refine blk_drewN ?_ _ | refine blk_drew ?_ | refine blk_alloc ?_ _)); exact BK338.out) k_ hk_), (Kd.freshB (g := gb343) (o := .cells #[.bool t339, .slice Ao10 t340.length co10] 27 (0, 0)) (by (with_reducible repeat (first | refine blk_drewN ?_ _ | refine blk_drew ?_ | refine blk_alloc ?_ _)); exact BK343.out) k_ hk_), (Kd.freshB (g := gb362) (o := .cells #[.bool false, .slice none 0 0] 27 (0, 0)) (by (with_reducible repeat (first | refine blk_drewN ?_ _ | refine blk_drew ?_ | refine blk_alloc ?_ _)); exact BK362.out) k_ hk_)⟩)) (below_size (by repeat (first | (with_reducible first | exact HB.out | apply below_alloc | apply pw_below_drewN | apply below_drew1 | refine below_set ?_ GE338.out | refine below_set ?_ GE343.out | refine below_set ?_ GE362.out) | exact HB.out))))
                have n2_ := Aside0.mk (blk_below (g := gb338) (o := .cells #[.bool true, .slice A0_1 l0_1.length c0_1] 27 (0, 0)) (by (with_reducible repeat (first | refine blk_drewN ?_ _ | refine blk_drew ?_ | refine blk_alloc ?_ _)); exact BK338.out) hb)
                have n3_ := Aside0.mk (blk_below (g := gb343) (o := .cells #[.bool t339, .slice Ao10 t340.length co10] 27 (0, 0)) (by (with_reducible repeat (first | refine blk_drewN ?_ _ | refine blk_drew ?_ | refine blk_alloc ?_ _)); exact BK343.out) hb)
                have n4_ := Aside0.mk (blk_below (g := gb362) (o := .cells #[.bool false, .slice none 0 0] 27 (0, 0)) (by (with_reducible repeat (first | refine blk_drewN ?_ _ | refine blk_drew ?_ | refine blk_alloc ?_ _)); exact BK362.out) hb)
                have n5_ := Aside0.mk (below_step (by repeat (first | (with_reducible first | exact HB.out | apply below_alloc | apply pw_below_drewN | apply below_drew1 | refine below_set ?_ GE338.out | refine below_set ?_ GE343.out | refine below_set ?_ GE362.out) | exact HB.out)) hb)
                clear HO_344001 BK338 BK343 BK362 HB
                have HO_344001 := n0_
                have HO353 := n1_
                have BK338 := n2_
                have BK343 := n3_
                have BK362 := n4_
                have HB := n5_
                clear n0_ n1_ n2_ n3_ n4_ n5_
                (try clear hb)
                (try clear hb2)
                (try clear hk)
                (try clear hi)
                (try clear ho0)
                refine hK.out _ _ ⟨(blk_cell BK338.out 0).trans rfl, (blk_cell BK338.out 1).trans rfl⟩ (fun hHeld => ?_)
                clear hK K
                refine norm_ (a' := ?_) ?_ ?_
                rotate_left
                ·show Act.put _ (some 34) _ = _
                 simp only [Act.put, List.setIfInBounds_toArray, List.set_cons_zero, List.set_cons_succ, i64_w, i32_w]
                 rfl
                exact norm_ (by first | (simp only [putAll, Act.put, List.setIfInBounds_toArray, List.set_cons_zero, List.set_cons_succ]; done) | (simp only [putAll, Act.put, List.setIfInBounds_toArray, List.set_cons_zero, List.set_cons_succ]; rfl)) (hJ3_8 (v352, gb362) _ ⟨hHeld, (by (with_reducible repeat (first | apply Kd.V_alloc | apply Kd.V_drewN | apply Kd.V_drew)); exact HO353.out), (by (with_reducible repeat (first | apply Kd.V_alloc | apply Kd.V_drewN | apply Kd.V_drew)); exact HO_344001.out), (by (with_reducible repeat (first | refine blk_drewN ?_ _ | refine blk_drew ?_ | refine blk_alloc ?_ _)); exact BK338.out), (by (with_reducible repeat (first | refine blk_drewN ?_ _ | refine blk_drew ?_ | refine blk_alloc ?_ _)); exact BK343.out), (by (with_reducible repeat (first | refine blk_drewN ?_ _ | refine blk_drew ?_ | refine blk_alloc ?_ _)); exact BK362.out), GW362.out, GE362.out, NB338_362.out, NB362_338.out, NB343_362.out, NB362_343.out, (by repeat (first | (with_reducible first | exact HB.out | apply below_alloc | apply pw_below_drewN | apply below_drew1 | refine below_set ?_ GE338.out | refine below_set ?_ GE343.out | refine below_set ?_ GE362.out) | exact HB.out))⟩)
               ·skip
                refine box_step ?hg (N := 9) ?hd (cs := #[.bool false, .slice none 0 0]) (t := 27) ?hr ?_; (case hd => rfl); (case hg => rfl); (case hr => first | (go_simp; done) | (go_simp; rfl))
                intro gb363 hg w36 hbox hb
                have n0_ := Aside0.mk (Kd.V_below (Kd.V_elderB (by (with_reducible repeat (first | apply Kd.V_alloc | apply Kd.V_drewN | apply Kd.V_drew)); exact HO_344001.out) gb363 (Nat.le_of_eq hg.symm)) hb)
                have n1_ := Aside0.mk (blk_below (g := gb338) (o := .cells #[.bool true, .slice A0_1 l0_1.length c0_1] 27 (0, 0)) (by (with_reducible repeat (first | refine blk_drewN ?_ _ | refine blk_drew ?_ | refine blk_alloc ?_ _)); exact BK338.out) hb)
                have n2_ := Aside0.mk (blk_below (g := gb343) (o := .cells #[.bool t339, .slice Ao10 t340.length co10] 27 (0, 0)) (by (with_reducible repeat (first | refine blk_drewN ?_ _ | refine blk_drew ?_ | refine blk_alloc ?_ _)); exact BK343.out) hb)
                have n3_ := Aside0.mk (blk_below (g := gb362) (o := .cells #[.bool false, .slice none 0 0] 27 (0, 0)) (by (with_reducible repeat (first | refine blk_drewN ?_ _ | refine blk_drew ?_ | refine blk_alloc ?_ _)); exact BK362.out) hb)
                have n4_ := Aside0.mk (below_step (by repeat (first | (with_reducible first | exact HB.out | apply below_alloc | apply pw_below_drewN | apply below_drew1 | refine below_set ?_ GE338.out | refine below_set ?_ GE343.out | refine below_set ?_ GE362.out) | exact HB.out)) hb)
                have n5_ := Aside0.mk (hbox)
                have n6_ := Aside0.mk ((by rw [hg]; exact (below_size (by repeat (first | (with_reducible first | exact HB.out | apply below_alloc | apply pw_below_drewN | apply below_drew1 | refine below_set ?_ GE338.out | refine below_set ?_ GE343.out | refine below_set ?_ GE362.out) | exact HB.out))) : w.heap.size ≤ gb363))
                have n7_ := Aside0.mk ((by rw [hg]; exact (below_size (by repeat (first | (with_reducible first | exact HB.out | apply below_alloc | apply pw_below_drewN | apply below_drew1 | refine below_set ?_ GE338.out | refine below_set ?_ GE343.out | refine below_set ?_ GE362.out) | exact HB.out))) : w.heap.size ≤ gb363))
                have n8_ := Aside0.mk ((by rw [hg]; exact Nat.ne_of_lt (blk_lt (g := gb338) (o := .cells #[.bool true, .slice A0_1 l0_1.length c0_1] 27 (0, 0)) (by (with_reducible repeat (first | refine blk_drewN ?_ _ | refine blk_drew ?_ | refine blk_alloc ?_ _)); exact BK338.out)) : gb338 ≠ gb363))
                have n9_ := Aside0.mk ((by rw [hg]; exact Nat.ne_of_gt (blk_lt (g := gb338) (o := .cells #[.bool true, .slice A0_1 l0_1.length c0_1] 27 (0, 0)) (by (with_reducible repeat (first | refine blk_drewN ?_ _ | refine blk_drew ?_ | refine blk_alloc ?_ _)); exact BK338.out)) : gb363 ≠ gb338))
                have n10_ := Aside0.mk ((by rw [hg]; exact Nat.ne_of_lt (blk_lt (g := gb343) (o := .cells #[.bool t339, .slice Ao10 t340.length co10] 27 (0, 0)) (by (with_reducible repeat (first | refine blk_drewN ?_ _ | refine blk_drew ?_ | refine blk_alloc ?_ _)); exact BK343.out)) : gb343 ≠ gb363))
                have n11_ := Aside0.mk ((by rw [hg]; exact Nat.ne_of_gt (blk_lt (g := gb343) (o := .cells #[.bool t339, .slice Ao10 t340.length co10] 27 (0, 0)) (by (with_reducible repeat (first | refine blk_drewN ?_ _ | refine blk_drew ?_ | refine blk_alloc ?_ _)); exact BK343.out)) : gb363 ≠ gb343))
                have n12_ := Aside0.mk ((by rw [hg]; exact Nat.ne_of_lt (blk_lt (g := gb362) (o := .cells #[.bool false, .slice none 0 0] 27 (0, 0)) (by (with_reducible repeat (first | refine blk_drewN ?_ _ | refine blk_drew ?_ | refine blk_alloc ?_ _)); exact BK362.out)) : gb362 ≠ gb363))
                have n13_ := Aside0.mk ((by rw [hg]; exact Nat.ne_of_gt (blk_lt (g := gb362) (o := .cells #[.bool false, .slice none 0 0] 27 (0, 0)) (by (with_reducible repeat (first | refine blk_drewN ?_ _ | refine blk_drew ?_ | refine blk_alloc ?_ _)); exact BK362.out)) : gb363 ≠ gb362))
                clear HO_344001 BK338 BK343 BK362 HB
                have HO_344001 := n0_
                have BK338 := n1_
                have BK343 := n2_
                have BK362 := n3_
                have HB := n4_
                have BK363 := n5_
                have GW363 := n6_
                have GE363 := n7_
                have NB338_363 := n8_
                have NB363_338 := n9_
                have NB343_363 := n10_
                have NB363_343 := n11_
                have NB362_363 := n12_
                have NB363_362 := n13_
                clear n0_ n1_ n2_ n3_ n4_ n5_ n6_ n7_ n8_ n9_ n10_ n11_ n12_ n13_ hb hbox hg
                refine hK.out _ _ ⟨(blk_cell BK338.out 0).trans rfl, (blk_cell BK338.out 1).trans rfl⟩ (fun hHeld => ?_)
                clear hK K
                refine norm_ (a' := ?_) ?_ ?_
                rotate_left
                ·show Act.put _ (some 9) _ = _
                 simp only [Act.put, List.setIfInBounds_toArray, List.set_cons_zero, List.set_cons_succ, i64_w, i32_w]
                 rfl
                exact norm_ (by first | (simp only [putAll, Act.put, List.setIfInBounds_toArray, List.set_cons_zero, List.set_cons_succ]; done) | (simp only [putAll, Act.put, List.setIfInBounds_toArray, List.set_cons_zero, List.set_cons_succ]; rfl)) (hJ8_9 (gb362, gb363) _ ⟨hHeld, (by (with_reducible repeat (first | apply Kd.V_alloc | apply Kd.V_drewN | apply Kd.V_drew)); exact Kd.V_mono HO_344001.out (fun _ hk => ⟨hk.1.1, ⟨hk.1.2.1, ⟨hk.1.2.2, hk.2⟩⟩⟩)), (by (with_reducible repeat (first | refine blk_drewN ?_ _ | refine blk_drew ?_ | refine blk_alloc ?_ _)); exact BK338.out), (by (with_reducible repeat (first | refine blk_drewN ?_ _ | refine blk_drew ?_ | refine blk_alloc ?_ _)); exact BK343.out), (by (with_reducible repeat (first | refine blk_drewN ?_ _ | refine blk_drew ?_ | refine blk_alloc ?_ _)); exact BK362.out), (by (with_reducible repeat (first | refine blk_drewN ?_ _ | refine blk_drew ?_ | refine blk_alloc ?_ _)); exact BK363.out), GW362.out, GE362.out, NB338_362.out, NB362_338.out, NB343_362.out, NB362_343.out, NB363_362.out, NB362_363.out, GW363.out, GE363.out, NB338_363.out, NB363_338.out, NB343_363.out, NB363_343.out, (by repeat (first | (with_reducible first | exact HB.out | apply below_alloc | apply pw_below_drewN | apply below_drew1 | refine below_set ?_ GE338.out | refine below_set ?_ GE343.out | refine below_set ?_ GE362.out | refine below_set ?_ GE363.out) | exact HB.out))⟩)
             ·skip
              rintro v352 w35 ⟨hS_, h0_, h1_, h2_, h3_, h4_⟩
              have n0_ : Aside0 (Kd.V (Kd.int .u32) 22 w35 w.heap.size (fun k_ => k_ ≠ gb338 ∧ k_ ≠ gb343) v352 t351) := ⟨h0_⟩
              have n1_ : Aside0 (Kd.V (Kd.int .u32) 22 w35 w.heap.size (fun k_ => k_ ≠ gb338 ∧ k_ ≠ gb343) (.slice Ao10 t340.length co10) t340) := ⟨h1_⟩
              have n2_ : Aside0 (w35.heap[gb338]? = some (.cells #[.bool true, .slice A0_1 l0_1.length c0_1] 27 (0, 0))) := ⟨h2_⟩
              have n3_ : Aside0 (w35.heap[gb343]? = some (.cells #[.bool t339, .slice Ao10 t340.length co10] 27 (0, 0))) := ⟨h3_⟩
              have n4_ : Aside0 (Below w.heap.size w w35) := ⟨h4_⟩
              clear HO_344001 BK338 BK343 HB h0_ h1_ h2_ h3_ h4_
              have HO353 := n0_
              have HO_344001 := n1_
              have BK338 := n2_
              have BK343 := n3_
              have HB := n4_
              clear n0_ n1_ n2_ n3_ n4_
              have hHeld : w35.cell? ⟨gb338, 0, none⟩ = some (.bool true) ∧ w35.cell? ⟨gb338, 1, none⟩ = some (.slice A0_1 l0_1.length c0_1) := hS_
              obtain ⟨Ao36, co36, eo36⟩ := Kd.V_slice HO353.out
              (first | subst eo36 | (injection eo36 with f1_ f2_ f3_; have f4_ := f1_.symm; have f5_ := f3_.symm; clear f1_ f2_ f3_; subst f4_; subst f5_))
              refine norm_ (a' := ?_) ?_ ?_
              rotate_left
              ·simp only [putAll, Act.put, List.setIfInBounds_toArray, List.set_cons_zero, List.set_cons_succ]
               rfl
              refine three_ (i := 4) (j := 8) (k := 9) (Ni := some 35) (Nj := some 8) (Nk := some 9) #[true, true, true, true, true, false, false, false, false, false, false, false] #[true, true, true, true, false, false, false, false, true, false, false, false] #[true, true, true, true, false, false, false, false, false, true, false, false] rfl rfl rfl rfl rfl rfl (three_of HT_.out (by kernel_rfl)) (by decide) (by decide) (by decide) (fun K hK => ?_) (fun K hK => ?_) (fun K hK => ?_)
              ·skip
               refine goes_ Tryz.func26 (by kernel_rfl) rfl #[.agg #[.bool true, .slice A0_1 l0_1.length c0_1], .agg #[.bool t350, .slice Ao36 t351.length co36]] (by rfl) rfl rfl (by (try simp only [List.map_toArray, List.map_cons, List.map_nil]); first | done | rfl | (simp only [List.length_drop, List.length_take]; rfl)) ?_
               with_reducible refine (spec_WideDiv.calls kj3 true _ _ l0_1 t350 _ _ t351 t354 t355 t358 t359 _ ?side1 ?side2 ?side3 ?side4 A26.out).mono ?_
               (case side1 => repeat (first | exact (Kd.C_below HR0_1.out HB.out) | (with_reducible refine Kd.C_alloc ?_ _) | (with_reducible refine Kd.C_drewN ?_ _) | (with_reducible refine Kd.C_drew ?_)))
               (case side2 => exact HC0_1.out)
               (case side3 => repeat (first | exact (Kd.V_reads' HO353.out).2.2 | (with_reducible refine Kd.C_alloc ?_ _) | (with_reducible refine Kd.C_drewN ?_ _) | (with_reducible refine Kd.C_drew ?_)))
               (case side4 => exact (Kd.V_reads' HO353.out).2.1)
               rintro e w37 ⟨v356, v360, rfl, ho0, ho1, hb⟩
               refine ⟨_, rfl, ?_⟩
               have n0_ := Aside0.mk (Kd.V_below (by (with_reducible repeat (first | apply Kd.V_alloc | apply Kd.V_drewN | apply Kd.V_drew)); exact HO_344001.out) hb)
               have n1_ := Aside0.mk (Kd.V_below (by (with_reducible repeat (first | apply Kd.V_alloc | apply Kd.V_drewN | apply Kd.V_drew)); exact HO353.out) hb)
               have n2_ := Aside0.mk (Kd.V_lower (Kd.V_mono (ok' := fun k_ => k_ ≠ gb338 ∧ k_ ≠ gb343) ho0 (fun k_ hk_ => ⟨(Kd.freshB (g := gb338) (o := .cells #[.bool true, .slice A0_1 l0_1.length c0_1] 27 (0, 0)) (by (with_reducible repeat (first | refine blk_drewN ?_ _ | refine blk_drew ?_ | refine blk_alloc ?_ _)); exact BK338.out) k_ hk_), (Kd.freshB (g := gb343) (o := .cells #[.bool t339, .slice Ao10 t340.length co10] 27 (0, 0)) (by (with_reducible repeat (first | refine blk_drewN ?_ _ | refine blk_drew ?_ | refine blk_alloc ?_ _)); exact BK343.out) k_ hk_)⟩)) (below_size (by repeat (first | (with_reducible first | exact HB.out | apply below_alloc | apply pw_below_drewN | apply below_drew1 | refine below_set ?_ GE338.out | refine below_set ?_ GE343.out) | exact HB.out))))
               have n3_ := Aside0.mk (Kd.V_lower (Kd.V_mono (ok' := fun k_ => k_ ≠ gb338 ∧ k_ ≠ gb343) ho1 (fun k_ hk_ => ⟨(Kd.freshB (g := gb338) (o := .cells #[.bool true, .slice A0_1 l0_1.length c0_1] 27 (0, 0)) (by (with_reducible repeat (first | refine blk_drewN ?_ _ | refine blk_drew ?_ | refine blk_alloc ?_ _)); exact BK338.out) k_ hk_), (Kd.freshB (g := gb343) (o := .cells #[.bool t339, .slice Ao10 t340.length co10] 27 (0, 0)) (by (with_reducible repeat (first | refine blk_drewN ?_ _ | refine blk_drew ?_ | refine blk_alloc ?_ _)); exact BK343.out) k_ hk_)⟩)) (below_size (by repeat (first | (with_reducible first | exact HB.out | apply below_alloc | apply pw_below_drewN | apply below_drew1 | refine below_set ?_ GE338.out | refine below_set ?_ GE343.out) | exact HB.out))))
               have n4_ := Aside0.mk (blk_below (g := gb338) (o := .cells #[.bool true, .slice A0_1 l0_1.length c0_1] 27 (0, 0)) (by (with_reducible repeat (first | refine blk_drewN ?_ _ | refine blk_drew ?_ | refine blk_alloc ?_ _)); exact BK338.out) hb)
               have n5_ := Aside0.mk (blk_below (g := gb343) (o := .cells #[.bool t339, .slice Ao10 t340.length co10] 27 (0, 0)) (by (with_reducible repeat (first | refine blk_drewN ?_ _ | refine blk_drew ?_ | refine blk_alloc ?_ _)); exact BK343.out) hb)
               have n6_ := Aside0.mk (below_step (by repeat (first | (with_reducible first | exact HB.out | apply below_alloc | apply pw_below_drewN | apply below_drew1 | refine below_set ?_ GE338.out | refine below_set ?_ GE343.out) | exact HB.out)) hb)
               clear HO_344001 HO353 BK338 BK343 HB
               have HO_344001 := n0_
               have HO353 := n1_
               have HO357 := n2_
               have HO361 := n3_
               have BK338 := n4_
               have BK343 := n5_
               have HB := n6_
               clear n0_ n1_ n2_ n3_ n4_ n5_ n6_
               (try clear hb)
               (try clear hb2)
               (try clear hk)
               (try clear hi)
               (try clear ho0)
               (try clear ho1)
               refine hK.out _ _ ⟨(blk_cell BK338.out 0).trans rfl, (blk_cell BK338.out 1).trans rfl⟩ (fun hHeld => ?_)
               clear hK K
               refine norm_ (a' := ?_) ?_ ?_
               rotate_left
               ·show Act.put _ (some 35) _ = _
                simp only [Act.put, List.setIfInBounds_toArray, List.set_cons_zero, List.set_cons_succ, i64_w, i32_w]
                rfl
               refine pure_ (i := 5) (N := some 30) (v := ?_) (a' := ?_) #[true, true, true, true, true, true, false, false, false, false, false, false] rfl rfl (any_of HT_.out (by kernel_rfl)) (fun _ _ _ h => h) (Or.inl ⟨by rfl, ?_⟩) ?_ ?_
               rotate_left
               ·intro w'
                go_simp
                with_reducible rfl
               rotate_left
               ·simp only [Act.put, List.setIfInBounds_toArray, List.set_cons_zero, List.set_cons_succ, i64_w, i32_w]
                rfl
               refine pure_ (i := 6) (N := some 36) (v := ?_) (a' := ?_) #[true, true, true, true, true, true, true, false, false, false, false, false] rfl rfl (any_of HT_.out (by kernel_rfl)) (fun _ _ _ h => h) (Or.inl ⟨by rfl, ?_⟩) ?_ ?_
               rotate_left
               ·intro w'
                go_simp
                with_reducible rfl
               rotate_left
               ·simp only [Act.put, List.setIfInBounds_toArray, List.set_cons_zero, List.set_cons_succ, i64_w, i32_w]
                rfl
               refine pure_ (i := 7) (N := some 37) (v := ?_) (a' := ?_) #[true, true, true, true, true, true, true, true, false, false, false, false] rfl rfl (any_of HT_.out (by kernel_rfl)) (fun _ _ _ h => h) (Or.inl ⟨by rfl, ?_⟩) ?_ ?_
               rotate_left
               ·intro w'
                go_simp
                with_reducible rfl
               rotate_left
               ·simp only [Act.put, List.setIfInBounds_toArray, List.set_cons_zero, List.set_cons_succ, i64_w, i32_w]
                rfl
               exact norm_ (by first | (simp only [putAll, Act.put, List.setIfInBounds_toArray, List.set_cons_zero, List.set_cons_succ]; done) | (simp only [putAll, Act.put, List.setIfInBounds_toArray, List.set_cons_zero, List.set_cons_succ]; rfl)) (hJ3_4 (.slice Ao36 t351.length co36, v356, v360) _ ⟨hHeld, (by (with_reducible repeat (first | apply Kd.V_alloc | apply Kd.V_drewN | apply Kd.V_drew)); exact HO353.out), (by (with_reducible repeat (first | apply Kd.V_alloc | apply Kd.V_drewN | apply Kd.V_drew)); exact HO357.out), (by (with_reducible repeat (first | apply Kd.V_alloc | apply Kd.V_drewN | apply Kd.V_drew)); exact HO361.out), (by (with_reducible repeat (first | apply Kd.V_alloc | apply Kd.V_drewN | apply Kd.V_drew)); exact HO_344001.out), (by (with_reducible repeat (first | refine blk_drewN ?_ _ | refine blk_drew ?_ | refine blk_alloc ?_ _)); exact BK338.out), (by (with_reducible repeat (first | refine blk_drewN ?_ _ | refine blk_drew ?_ | refine blk_alloc ?_ _)); exact BK343.out), (by repeat (first | (with_reducible first | exact HB.out | apply below_alloc | apply pw_below_drewN | apply below_drew1 | refine below_set ?_ GE338.out | refine below_set ?_ GE343.out) | exact HB.out))⟩)
              ·skip
               refine box_step ?hg (N := 8) ?hd (cs := #[.bool false, .slice none 0 0]) (t := 27) ?hr ?_; (case hd => rfl); (case hg => rfl); (case hr => first | (go_simp; done) | (go_simp; rfl))
               intro gb362 hg w36 hbox hb
               have n0_ := Aside0.mk (Kd.V_below (Kd.V_elderB (by (with_reducible repeat (first | apply Kd.V_alloc | apply Kd.V_drewN | apply Kd.V_drew)); exact HO_344001.out) gb362 (Nat.le_of_eq hg.symm)) hb)
               have n1_ := Aside0.mk (Kd.V_below (Kd.V_elderB (by (with_reducible repeat (first | apply Kd.V_alloc | apply Kd.V_drewN | apply Kd.V_drew)); exact HO353.out) gb362 (Nat.le_of_eq hg.symm)) hb)
               have n2_ := Aside0.mk (blk_below (g := gb338) (o := .cells #[.bool true, .slice A0_1 l0_1.length c0_1] 27 (0, 0)) (by (with_reducible repeat (first | refine blk_drewN ?_ _ | refine blk_drew ?_ | refine blk_alloc ?_ _)); exact BK338.out) hb)
               have n3_ := Aside0.mk (blk_below (g := gb343) (o := .cells #[.bool t339, .slice Ao10 t340.length co10] 27 (0, 0)) (by (with_reducible repeat (first | refine blk_drewN ?_ _ | refine blk_drew ?_ | refine blk_alloc ?_ _)); exact BK343.out) hb)
               have n4_ := Aside0.mk (below_step (by repeat (first | (with_reducible first | exact HB.out | apply below_alloc | apply pw_below_drewN | apply below_drew1 | refine below_set ?_ GE338.out | refine below_set ?_ GE343.out) | exact HB.out)) hb)
               have n5_ := Aside0.mk (hbox)
               have n6_ := Aside0.mk ((by rw [hg]; exact (below_size (by repeat (first | (with_reducible first | exact HB.out | apply below_alloc | apply pw_below_drewN | apply below_drew1 | refine below_set ?_ GE338.out | refine below_set ?_ GE343.out) | exact HB.out))) : w.heap.size ≤ gb362))
               have n7_ := Aside0.mk ((by rw [hg]; exact (below_size (by repeat (first | (with_reducible first | exact HB.out | apply below_alloc | apply pw_below_drewN | apply below_drew1 | refine below_set ?_ GE338.out | refine below_set ?_ GE343.out) | exact HB.out))) : w.heap.size ≤ gb362))
               have n8_ := Aside0.mk ((by rw [hg]; exact Nat.ne_of_lt (blk_lt (g := gb338) (o := .cells #[.bool true, .slice A0_1 l0_1.length c0_1] 27 (0, 0)) (by (with_reducible repeat (first | refine blk_drewN ?_ _ | refine blk_drew ?_ | refine blk_alloc ?_ _)); exact BK338.out)) : gb338 ≠ gb362))
               have n9_ := Aside0.mk ((by rw [hg]; exact Nat.ne_of_gt (blk_lt (g := gb338) (o := .cells #[.bool true, .slice A0_1 l0_1.length c0_1] 27 (0, 0)) (by (with_reducible repeat (first | refine blk_drewN ?_ _ | refine blk_drew ?_ | refine blk_alloc ?_ _)); exact BK338.out)) : gb362 ≠ gb338))
               have n10_ := Aside0.mk ((by rw [hg]; exact Nat.ne_of_lt (blk_lt (g := gb343) (o := .cells #[.bool t339, .slice Ao10 t340.length co10] 27 (0, 0)) (by (with_reducible repeat (first | refine blk_drewN ?_ _ | refine blk_drew ?_ | refine blk_alloc ?_ _)); exact BK343.out)) : gb343 ≠ gb362))
               have n11_ := Aside0.mk ((by rw [hg]; exact Nat.ne_of_gt (blk_lt (g := gb343) (o := .cells #[.bool t339, .slice Ao10 t340.length co10] 27 (0, 0)) (by (with_reducible repeat (first | refine blk_drewN ?_ _ | refine blk_drew ?_ | refine blk_alloc ?_ _)); exact BK343.out)) : gb362 ≠ gb343))
               clear HO_344001 HO353 BK338 BK343 HB
               have HO_344001 := n0_
               have HO353 := n1_
               have BK338 := n2_
               have BK343 := n3_
               have HB := n4_
               have BK362 := n5_
               have GW362 := n6_
               have GE362 := n7_
               have NB338_362 := n8_
               have NB362_338 := n9_
               have NB343_362 := n10_
               have NB362_343 := n11_
               clear n0_ n1_ n2_ n3_ n4_ n5_ n6_ n7_ n8_ n9_ n10_ n11_ hb hbox hg
               refine hK.out _ _ ⟨(blk_cell BK338.out 0).trans rfl, (blk_cell BK338.out 1).trans rfl⟩ (fun hHeld => ?_)
               clear hK K
               refine norm_ (a' := ?_) ?_ ?_
               rotate_left
               ·show Act.put _ (some 8) _ = _
                simp only [Act.put, List.setIfInBounds_toArray, List.set_cons_zero, List.set_cons_succ, i64_w, i32_w]
                rfl
               exact norm_ (by first | (simp only [putAll, Act.put, List.setIfInBounds_toArray, List.set_cons_zero, List.set_cons_succ]; done) | (simp only [putAll, Act.put, List.setIfInBounds_toArray, List.set_cons_zero, List.set_cons_succ]; rfl)) (hJ3_8 ((.slice Ao36 t351.length co36), gb362) _ ⟨hHeld, (by (with_reducible repeat (first | apply Kd.V_alloc | apply Kd.V_drewN | apply Kd.V_drew)); exact Kd.V_mono HO353.out (fun _ hk => ⟨hk.1.1, ⟨hk.1.2, hk.2⟩⟩)), (by (with_reducible repeat (first | apply Kd.V_alloc | apply Kd.V_drewN | apply Kd.V_drew)); exact Kd.V_mono HO_344001.out (fun _ hk => ⟨hk.1.1, ⟨hk.1.2, hk.2⟩⟩)), (by (with_reducible repeat (first | refine blk_drewN ?_ _ | refine blk_drew ?_ | refine blk_alloc ?_ _)); exact BK338.out), (by (with_reducible repeat (first | refine blk_drewN ?_ _ | refine blk_drew ?_ | refine blk_alloc ?_ _)); exact BK343.out), (by (with_reducible repeat (first | refine blk_drewN ?_ _ | refine blk_drew ?_ | refine blk_alloc ?_ _)); exact BK362.out), GW362.out, GE362.out, NB338_362.out, NB362_338.out, NB343_362.out, NB362_343.out, (by repeat (first | (with_reducible first | exact HB.out | apply below_alloc | apply pw_below_drewN | apply below_drew1 | refine below_set ?_ GE338.out | refine below_set ?_ GE343.out | refine below_set ?_ GE362.out) | exact HB.out))⟩)
              ·skip
               refine box_step ?hg (N := 9) ?hd (cs := #[.bool false, .slice none 0 0]) (t := 27) ?hr ?_; (case hd => rfl); (case hg => rfl); (case hr => first | (go_simp; done) | (go_simp; rfl))
               intro gb363 hg w36 hbox hb
               have n0_ := Aside0.mk (Kd.V_below (Kd.V_elderB (by (with_reducible repeat (first | apply Kd.V_alloc | apply Kd.V_drewN | apply Kd.V_drew)); exact HO_344001.out) gb363 (Nat.le_of_eq hg.symm)) hb)
               have n1_ := Aside0.mk (Kd.V_below (Kd.V_elderB (by (with_reducible repeat (first | apply Kd.V_alloc | apply Kd.V_drewN | apply Kd.V_drew)); exact HO353.out) gb363 (Nat.le_of_eq hg.symm)) hb)
               have n2_ := Aside0.mk (blk_below (g := gb338) (o := .cells #[.bool true, .slice A0_1 l0_1.length c0_1] 27 (0, 0)) (by (with_reducible repeat (first | refine blk_drewN ?_ _ | refine blk_drew ?_ | refine blk_alloc ?_ _)); exact BK338.out) hb)
               have n3_ := Aside0.mk (blk_below (g := gb343) (o := .cells #[.bool t339, .slice Ao10 t340.length co10] 27 (0, 0)) (by (with_reducible repeat (first | refine blk_drewN ?_ _ | refine blk_drew ?_ | refine blk_alloc ?_ _)); exact BK343.out) hb)
               have n4_ := Aside0.mk (below_step (by repeat (first | (with_reducible first | exact HB.out | apply below_alloc | apply pw_below_drewN | apply below_drew1 | refine below_set ?_ GE338.out | refine below_set ?_ GE343.out) | exact HB.out)) hb)
               have n5_ := Aside0.mk (hbox)
               have n6_ := Aside0.mk ((by rw [hg]; exact (below_size (by repeat (first | (with_reducible first | exact HB.out | apply below_alloc | apply pw_below_drewN | apply below_drew1 | refine below_set ?_ GE338.out | refine below_set ?_ GE343.out) | exact HB.out))) : w.heap.size ≤ gb363))
               have n7_ := Aside0.mk ((by rw [hg]; exact (below_size (by repeat (first | (with_reducible first | exact HB.out | apply below_alloc | apply pw_below_drewN | apply below_drew1 | refine below_set ?_ GE338.out | refine below_set ?_ GE343.out) | exact HB.out))) : w.heap.size ≤ gb363))
               have n8_ := Aside0.mk ((by rw [hg]; exact Nat.ne_of_lt (blk_lt (g := gb338) (o := .cells #[.bool true, .slice A0_1 l0_1.length c0_1] 27 (0, 0)) (by (with_reducible repeat (first | refine blk_drewN ?_ _ | refine blk_drew ?_ | refine blk_alloc ?_ _)); exact BK338.out)) : gb338 ≠ gb363))
               have n9_ := Aside0.mk ((by rw [hg]; exact Nat.ne_of_gt (blk_lt (g := gb338) (o := .cells #[.bool true, .slice A0_1 l0_1.length c0_1] 27 (0, 0)) (by (with_reducible repeat (first | refine blk_drewN ?_ _ | refine blk_drew ?_ | refine blk_alloc ?_ _)); exact BK338.out)) : gb363 ≠ gb338))
               have n10_ := Aside0.mk ((by rw [hg]; exact Nat.ne_of_lt (blk_lt (g := gb343) (o := .cells #[.bool t339, .slice Ao10 t340.length co10] 27 (0, 0)) (by (with_reducible repeat (first | refine blk_drewN ?_ _ | refine blk_drew ?_ | refine blk_alloc ?_ _)); exact BK343.out)) : gb343 ≠ gb363))
               have n11_ := Aside0.mk ((by rw [hg]; exact Nat.ne_of_gt (blk_lt (g := gb343) (o := .cells #[.bool t339, .slice Ao10 t340.length co10] 27 (0, 0)) (by (with_reducible repeat (first | refine blk_drewN ?_ _ | refine blk_drew ?_ | refine blk_alloc ?_ _)); exact BK343.out)) : gb363 ≠ gb343))
               clear HO_344001 HO353 BK338 BK343 HB
               have HO_344001 := n0_
               have HO353 := n1_
               have BK338 := n2_
               have BK343 := n3_
               have HB := n4_
               have BK363 := n5_
               have GW363 := n6_
               have GE363 := n7_
               have NB338_363 := n8_
               have NB363_338 := n9_
               have NB343_363 := n10_
               have NB363_343 := n11_
               clear n0_ n1_ n2_ n3_ n4_ n5_ n6_ n7_ n8_ n9_ n10_ n11_ hb hbox hg
               refine hK.out _ _ ⟨(blk_cell BK338.out 0).trans rfl, (blk_cell BK338.out 1).trans rfl⟩ (fun hHeld => ?_)
               clear hK K
               refine norm_ (a' := ?_) ?_ ?_
               rotate_left
               ·show Act.put _ (some 9) _ = _
                simp only [Act.put, List.setIfInBounds_toArray, List.set_cons_zero, List.set_cons_succ, i64_w, i32_w]
                rfl
               exact norm_ (by first | (simp only [putAll, Act.put, List.setIfInBounds_toArray, List.set_cons_zero, List.set_cons_succ]; done) | (simp only [putAll, Act.put, List.setIfInBounds_toArray, List.set_cons_zero, List.set_cons_succ]; rfl)) (hJ3_9 ((.slice Ao36 t351.length co36), gb363) _ ⟨hHeld, (by (with_reducible repeat (first | apply Kd.V_alloc | apply Kd.V_drewN | apply Kd.V_drew)); exact Kd.V_mono HO353.out (fun _ hk => ⟨hk.1.1, ⟨hk.1.2, hk.2⟩⟩)), (by (with_reducible repeat (first | apply Kd.V_alloc | apply Kd.V_drewN | apply Kd.V_drew)); exact Kd.V_mono HO_344001.out (fun _ hk => ⟨hk.1.1, ⟨hk.1.2, hk.2⟩⟩)), (by (with_reducible repeat (first | refine blk_drewN ?_ _ | refine blk_drew ?_ | refine blk_alloc ?_ _)); exact BK338.out), (by (with_reducible repeat (first | refine blk_drewN ?_ _ | refine blk_drew ?_ | refine blk_alloc ?_ _)); exact BK343.out), (by (with_reducible repeat (first | refine blk_drewN ?_ _ | refine blk_drew ?_ | refine blk_alloc ?_ _)); exact BK363.out), GW363.out, GE363.out, NB338_363.out, NB363_338.out, NB343_363.out, NB363_343.out, (by repeat (first | (with_reducible first | exact HB.out | apply below_alloc | apply pw_below_drewN | apply below_drew1 | refine below_set ?_ GE338.out | refine below_set ?_ GE343.out | refine below_set ?_ GE363.out) | exact HB.out))⟩)
            ·skip
             rintro ⟨gb362, gb363⟩ w36 ⟨hS_, h0_, h1_, h2_, h3_, h4_, h5_, h6_, h7_, h8_, h9_, h10_, h11_, h12_, h13_, h14_, h15_, h16_, h17_, h18_, h19_⟩
             have n0_ : Aside0 (Kd.V (Kd.int .u32) 22 w36 w.heap.size (fun k_ => k_ ≠ gb338 ∧ k_ ≠ gb343 ∧ k_ ≠ gb362 ∧ k_ ≠ gb363) (.slice Ao10 t340.length co10) t340) := ⟨h0_⟩
             have n1_ : Aside0 (w36.heap[gb338]? = some (.cells #[.bool true, .slice A0_1 l0_1.length c0_1] 27 (0, 0))) := ⟨h1_⟩
             have n2_ : Aside0 (w36.heap[gb343]? = some (.cells #[.bool t339, .slice Ao10 t340.length co10] 27 (0, 0))) := ⟨h2_⟩
             have n3_ : Aside0 (w36.heap[gb362]? = some (.cells #[.bool false, .slice none 0 0] 27 (0, 0))) := ⟨h3_⟩
             have n4_ : Aside0 (w36.heap[gb363]? = some (.cells #[.bool false, .slice none 0 0] 27 (0, 0))) := ⟨h4_⟩
             have n5_ : Aside0 (w.heap.size ≤ gb362) := ⟨h5_⟩
             have n6_ : Aside0 (w.heap.size ≤ gb362) := ⟨h6_⟩
             have n7_ : Aside0 (gb338 ≠ gb362) := ⟨h7_⟩
             have n8_ : Aside0 (gb362 ≠ gb338) := ⟨h8_⟩
             have n9_ : Aside0 (gb343 ≠ gb362) := ⟨h9_⟩
             have n10_ : Aside0 (gb362 ≠ gb343) := ⟨h10_⟩
             have n11_ : Aside0 (gb363 ≠ gb362) := ⟨h11_⟩
             have n12_ : Aside0 (gb362 ≠ gb363) := ⟨h12_⟩
             have n13_ : Aside0 (w.heap.size ≤ gb363) := ⟨h13_⟩
             have n14_ : Aside0 (w.heap.size ≤ gb363) := ⟨h14_⟩
             have n15_ : Aside0 (gb338 ≠ gb363) := ⟨h15_⟩
             have n16_ : Aside0 (gb363 ≠ gb338) := ⟨h16_⟩
             have n17_ : Aside0 (gb343 ≠ gb363) := ⟨h17_⟩
             have n18_ : Aside0 (gb363 ≠ gb343) := ⟨h18_⟩
             have n19_ : Aside0 (Below w.heap.size w w36) := ⟨h19_⟩
             clear HO_344001 BK338 BK343 HB h0_ h1_ h2_ h3_ h4_ h5_ h6_ h7_ h8_ h9_ h10_ h11_ h12_ h13_ h14_ h15_ h16_ h17_ h18_ h19_
             have HO_344001 := n0_
             have BK338 := n1_
             have BK343 := n2_
             have BK362 := n3_
             have BK363 := n4_
             have GW362 := n5_
             have GE362 := n6_
             have NB338_362 := n7_
             have NB362_338 := n8_
             have NB343_362 := n9_
             have NB362_343 := n10_
             have NB363_362 := n11_
             have NB362_363 := n12_
             have GW363 := n13_
             have GE363 := n14_
             have NB338_363 := n15_
             have NB363_338 := n16_
             have NB343_363 := n17_
             have NB363_343 := n18_
             have HB := n19_
             clear n0_ n1_ n2_ n3_ n4_ n5_ n6_ n7_ n8_ n9_ n10_ n11_ n12_ n13_ n14_ n15_ n16_ n17_ n18_ n19_
             have hHeld : w36.cell? ⟨gb338, 0, none⟩ = some (.bool true) ∧ w36.cell? ⟨gb338, 1, none⟩ = some (.slice A0_1 l0_1.length c0_1) := hS_
             refine norm_ (a' := ?_) ?_ ?_
             rotate_left
             ·simp only [putAll, Act.put, List.setIfInBounds_toArray, List.set_cons_zero, List.set_cons_succ]
              rfl
             refine one_ (i := 3) (N := some 34) #[true, true, true, true, false, false, false, false, true, true, false, false] rfl rfl (one_of HT_.out (by kernel_rfl)) (by decide) (fun K hK => ?_)
             refine goes_ Tryz.func13 (by kernel_rfl) rfl #[.int .i64 (wrap64 (64 * a1))] (by rfl) rfl rfl (by (try simp only [List.map_toArray, List.map_cons, List.map_nil]); first | done | rfl | (simp only [List.length_drop, List.length_take]; rfl)) ?_
             with_reducible refine (spec_Two.calls kj3 (wrap64 (64 * a1)) t350 t351 _ A25.out).mono ?_
             rintro e w37 ⟨v352, rfl, ho0, hb⟩
             refine ⟨_, rfl, ?_⟩
             have n0_ := Aside0.mk (Kd.V_below (by (with_reducible repeat (first | apply Kd.V_alloc | apply Kd.V_drewN | apply Kd.V_drew)); exact HO_344001.out) hb)
             have n1_ := Aside0.mk (Kd.V_lower (Kd.V_mono (ok' := fun k_ => k_ ≠ gb338 ∧ k_ ≠ gb343 ∧ k_ ≠ gb362 ∧ k_ ≠ gb363) ho0 (fun k_ hk_ => ⟨(Kd.freshB (g := gb338) (o := .cells #[.bool true, .slice A0_1 l0_1.length c0_1] 27 (0, 0)) (by (with_reducible repeat (first | refine blk_drewN ?_ _ | refine blk_drew ?_ | refine blk_alloc ?_ _)); exact BK338.out) k_ hk_), (Kd.freshB (g := gb343) (o := .cells #[.bool t339, .slice Ao10 t340.length co10] 27 (0, 0)) (by (with_reducible repeat (first | refine blk_drewN ?_ _ | refine blk_drew ?_ | refine blk_alloc ?_ _)); exact BK343.out) k_ hk_), (Kd.freshB (g := gb362) (o := .cells #[.bool false, .slice none 0 0] 27 (0, 0)) (by (with_reducible repeat (first | refine blk_drewN ?_ _ | refine blk_drew ?_ | refine blk_alloc ?_ _)); exact BK362.out) k_ hk_), (Kd.freshB (g := gb363) (o := .cells #[.bool false, .slice none 0 0] 27 (0, 0)) (by (with_reducible repeat (first | refine blk_drewN ?_ _ | refine blk_drew ?_ | refine blk_alloc ?_ _)); exact BK363.out) k_ hk_)⟩)) (below_size (by repeat (first | (with_reducible first | exact HB.out | apply below_alloc | apply pw_below_drewN | apply below_drew1 | refine below_set ?_ GE338.out | refine below_set ?_ GE343.out | refine below_set ?_ GE362.out | refine below_set ?_ GE363.out) | exact HB.out))))
             have n2_ := Aside0.mk (blk_below (g := gb338) (o := .cells #[.bool true, .slice A0_1 l0_1.length c0_1] 27 (0, 0)) (by (with_reducible repeat (first | refine blk_drewN ?_ _ | refine blk_drew ?_ | refine blk_alloc ?_ _)); exact BK338.out) hb)
             have n3_ := Aside0.mk (blk_below (g := gb343) (o := .cells #[.bool t339, .slice Ao10 t340.length co10] 27 (0, 0)) (by (with_reducible repeat (first | refine blk_drewN ?_ _ | refine blk_drew ?_ | refine blk_alloc ?_ _)); exact BK343.out) hb)
             have n4_ := Aside0.mk (blk_below (g := gb362) (o := .cells #[.bool false, .slice none 0 0] 27 (0, 0)) (by (with_reducible repeat (first | refine blk_drewN ?_ _ | refine blk_drew ?_ | refine blk_alloc ?_ _)); exact BK362.out) hb)
             have n5_ := Aside0.mk (blk_below (g := gb363) (o := .cells #[.bool false, .slice none 0 0] 27 (0, 0)) (by (with_reducible repeat (first | refine blk_drewN ?_ _ | refine blk_drew ?_ | refine blk_alloc ?_ _)); exact BK363.out) hb)
             have n6_ := Aside0.mk (below_step (by repeat (first | (with_reducible first | exact HB.out | apply below_alloc | apply pw_below_drewN | apply below_drew1 | refine below_set ?_ GE338.out | refine below_set ?_ GE343.out | refine below_set ?_ GE362.out | refine below_set ?_ GE363.out) | exact HB.out)) hb)
             clear HO_344001 BK338 BK343 BK362 BK363 HB
             have HO_344001 := n0_
             have HO353 := n1_
             have BK338 := n2_
             have BK343 := n3_
             have BK362 := n4_
             have BK363 := n5_
             have HB := n6_
             clear n0_ n1_ n2_ n3_ n4_ n5_ n6_
             (try clear hb)
             (try clear hb2)
             (try clear hk)
             (try clear hi)
             (try clear ho0)
             refine hK.out _ _ ⟨(blk_cell BK338.out 0).trans rfl, (blk_cell BK338.out 1).trans rfl⟩ (fun hHeld => ?_)
             clear hK K
             refine norm_ (a' := ?_) ?_ ?_
             rotate_left
             ·show Act.put _ (some 34) _ = _
              simp only [Act.put, List.setIfInBounds_toArray, List.set_cons_zero, List.set_cons_succ, i64_w, i32_w]
              rfl
             exact norm_ (by first | (simp only [putAll, Act.put, List.setIfInBounds_toArray, List.set_cons_zero, List.set_cons_succ]; done) | (simp only [putAll, Act.put, List.setIfInBounds_toArray, List.set_cons_zero, List.set_cons_succ]; rfl)) (hJ3_8_9 (v352, gb362, gb363) _ ⟨hHeld, (by (with_reducible repeat (first | apply Kd.V_alloc | apply Kd.V_drewN | apply Kd.V_drew)); exact HO353.out), (by (with_reducible repeat (first | apply Kd.V_alloc | apply Kd.V_drewN | apply Kd.V_drew)); exact HO_344001.out), (by (with_reducible repeat (first | refine blk_drewN ?_ _ | refine blk_drew ?_ | refine blk_alloc ?_ _)); exact BK338.out), (by (with_reducible repeat (first | refine blk_drewN ?_ _ | refine blk_drew ?_ | refine blk_alloc ?_ _)); exact BK343.out), (by (with_reducible repeat (first | refine blk_drewN ?_ _ | refine blk_drew ?_ | refine blk_alloc ?_ _)); exact BK362.out), (by (with_reducible repeat (first | refine blk_drewN ?_ _ | refine blk_drew ?_ | refine blk_alloc ?_ _)); exact BK363.out), GW362.out, GE362.out, NB338_362.out, NB362_338.out, NB343_362.out, NB362_343.out, NB363_362.out, NB362_363.out, GW363.out, GE363.out, NB338_363.out, NB363_338.out, NB343_363.out, NB363_343.out, (by repeat (first | (with_reducible first | exact HB.out | apply below_alloc | apply pw_below_drewN | apply below_drew1 | refine below_set ?_ GE338.out | refine below_set ?_ GE343.out | refine below_set ?_ GE362.out | refine below_set ?_ GE363.out) | exact HB.out))⟩)
           ·skip
            rintro ⟨v352, gb363⟩ w36 ⟨hS_, h0_, h1_, h2_, h3_, h4_, h5_, h6_, h7_, h8_, h9_, h10_, h11_⟩
            have n0_ : Aside0 (Kd.V (Kd.int .u32) 22 w36 w.heap.size (fun k_ => k_ ≠ gb338 ∧ k_ ≠ gb343 ∧ k_ ≠ gb363) v352 t351) := ⟨h0_⟩
            have n1_ : Aside0 (Kd.V (Kd.int .u32) 22 w36 w.heap.size (fun k_ => k_ ≠ gb338 ∧ k_ ≠ gb343 ∧ k_ ≠ gb363) (.slice Ao10 t340.length co10) t340) := ⟨h1_⟩
            have n2_ : Aside0 (w36.heap[gb338]? = some (.cells #[.bool true, .slice A0_1 l0_1.length c0_1] 27 (0, 0))) := ⟨h2_⟩
            have n3_ : Aside0 (w36.heap[gb343]? = some (.cells #[.bool t339, .slice Ao10 t340.length co10] 27 (0, 0))) := ⟨h3_⟩
            have n4_ : Aside0 (w36.heap[gb363]? = some (.cells #[.bool false, .slice none 0 0] 27 (0, 0))) := ⟨h4_⟩
            have n5_ : Aside0 (w.heap.size ≤ gb363) := ⟨h5_⟩
            have n6_ : Aside0 (w.heap.size ≤ gb363) := ⟨h6_⟩
            have n7_ : Aside0 (gb338 ≠ gb363) := ⟨h7_⟩
            have n8_ : Aside0 (gb363 ≠ gb338) := ⟨h8_⟩
            have n9_ : Aside0 (gb343 ≠ gb363) := ⟨h9_⟩
            have n10_ : Aside0 (gb363 ≠ gb343) := ⟨h10_⟩
            have n11_ : Aside0 (Below w.heap.size w w36) := ⟨h11_⟩
            clear HO_344001 BK338 BK343 HB h0_ h1_ h2_ h3_ h4_ h5_ h6_ h7_ h8_ h9_ h10_ h11_
            have HO353 := n0_
            have HO_344001 := n1_
            have BK338 := n2_
            have BK343 := n3_
            have BK363 := n4_
            have GW363 := n5_
            have GE363 := n6_
            have NB338_363 := n7_
            have NB363_338 := n8_
            have NB343_363 := n9_
            have NB363_343 := n10_
            have HB := n11_
            clear n0_ n1_ n2_ n3_ n4_ n5_ n6_ n7_ n8_ n9_ n10_ n11_
            have hHeld : w36.cell? ⟨gb338, 0, none⟩ = some (.bool true) ∧ w36.cell? ⟨gb338, 1, none⟩ = some (.slice A0_1 l0_1.length c0_1) := hS_
            obtain ⟨Ao37, co37, eo37⟩ := Kd.V_slice HO353.out
            (first | subst eo37 | (injection eo37 with f1_ f2_ f3_; have f4_ := f1_.symm; have f5_ := f3_.symm; clear f1_ f2_ f3_; subst f4_; subst f5_))
            refine norm_ (a' := ?_) ?_ ?_
            rotate_left
            ·simp only [putAll, Act.put, List.setIfInBounds_toArray, List.set_cons_zero, List.set_cons_succ]
             rfl
            refine two_ (i := 4) (j := 8) (Ni := some 35) (Nj := some 8) #[true, true, true, true, true, false, false, false, false, true, false, false] #[true, true, true, true, false, false, false, false, true, true, false, false] rfl rfl rfl rfl (two_of HT_.out (by kernel_rfl)) (by decide) (by decide) (fun K hK => ?_) (fun K hK => ?_)
            ·skip
             refine goes_ Tryz.func26 (by kernel_rfl) rfl #[.agg #[.bool true, .slice A0_1 l0_1.length c0_1], .agg #[.bool t350, .slice Ao37 t351.length co37]] (by rfl) rfl rfl (by (try simp only [List.map_toArray, List.map_cons, List.map_nil]); first | done | rfl | (simp only [List.length_drop, List.length_take]; rfl)) ?_
             with_reducible refine (spec_WideDiv.calls kj3 true _ _ l0_1 t350 _ _ t351 t354 t355 t358 t359 _ ?side1 ?side2 ?side3 ?side4 A26.out).mono ?_
             (case side1 => repeat (first | exact (Kd.C_below HR0_1.out HB.out) | (with_reducible refine Kd.C_alloc ?_ _) | (with_reducible refine Kd.C_drewN ?_ _) | (with_reducible refine Kd.C_drew ?_)))
             (case side2 => exact HC0_1.out)
             (case side3 => repeat (first | exact (Kd.V_reads' HO353.out).2.2 | (with_reducible refine Kd.C_alloc ?_ _) | (with_reducible refine Kd.C_drewN ?_ _) | (with_reducible refine Kd.C_drew ?_)))
             (case side4 => exact (Kd.V_reads' HO353.out).2.1)
             rintro e w38 ⟨v356, v360, rfl, ho0, ho1, hb⟩
             refine ⟨_, rfl, ?_⟩
             have n0_ := Aside0.mk (Kd.V_below (by (with_reducible repeat (first | apply Kd.V_alloc | apply Kd.V_drewN | apply Kd.V_drew)); exact HO_344001.out) hb)
             have n1_ := Aside0.mk (Kd.V_below (by (with_reducible repeat (first | apply Kd.V_alloc | apply Kd.V_drewN | apply Kd.V_drew)); exact HO353.out) hb)
             have n2_ := Aside0.mk (Kd.V_lower (Kd.V_mono (ok' := fun k_ => k_ ≠ gb338 ∧ k_ ≠ gb343 ∧ k_ ≠ gb363) ho0 (fun k_ hk_ => ⟨(Kd.freshB (g := gb338) (o := .cells #[.bool true, .slice A0_1 l0_1.length c0_1] 27 (0, 0)) (by (with_reducible repeat (first | refine blk_drewN ?_ _ | refine blk_drew ?_ | refine blk_alloc ?_ _)); exact BK338.out) k_ hk_), (Kd.freshB (g := gb343) (o := .cells #[.bool t339, .slice Ao10 t340.length co10] 27 (0, 0)) (by (with_reducible repeat (first | refine blk_drewN ?_ _ | refine blk_drew ?_ | refine blk_alloc ?_ _)); exact BK343.out) k_ hk_), (Kd.freshB (g := gb363) (o := .cells #[.bool false, .slice none 0 0] 27 (0, 0)) (by (with_reducible repeat (first | refine blk_drewN ?_ _ | refine blk_drew ?_ | refine blk_alloc ?_ _)); exact BK363.out) k_ hk_)⟩)) (below_size (by repeat (first | (with_reducible first | exact HB.out | apply below_alloc | apply pw_below_drewN | apply below_drew1 | refine below_set ?_ GE338.out | refine below_set ?_ GE343.out | refine below_set ?_ GE363.out) | exact HB.out))))
             have n3_ := Aside0.mk (Kd.V_lower (Kd.V_mono (ok' := fun k_ => k_ ≠ gb338 ∧ k_ ≠ gb343 ∧ k_ ≠ gb363) ho1 (fun k_ hk_ => ⟨(Kd.freshB (g := gb338) (o := .cells #[.bool true, .slice A0_1 l0_1.length c0_1] 27 (0, 0)) (by (with_reducible repeat (first | refine blk_drewN ?_ _ | refine blk_drew ?_ | refine blk_alloc ?_ _)); exact BK338.out) k_ hk_), (Kd.freshB (g := gb343) (o := .cells #[.bool t339, .slice Ao10 t340.length co10] 27 (0, 0)) (by (with_reducible repeat (first | refine blk_drewN ?_ _ | refine blk_drew ?_ | refine blk_alloc ?_ _)); exact BK343.out) k_ hk_), (Kd.freshB (g := gb363) (o := .cells #[.bool false, .slice none 0 0] 27 (0, 0)) (by (with_reducible repeat (first | refine blk_drewN ?_ _ | refine blk_drew ?_ | refine blk_alloc ?_ _)); exact BK363.out) k_ hk_)⟩)) (below_size (by repeat (first | (with_reducible first | exact HB.out | apply below_alloc | apply pw_below_drewN | apply below_drew1 | refine below_set ?_ GE338.out | refine below_set ?_ GE343.out | refine below_set ?_ GE363.out) | exact HB.out))))
             have n4_ := Aside0.mk (blk_below (g := gb338) (o := .cells #[.bool true, .slice A0_1 l0_1.length c0_1] 27 (0, 0)) (by (with_reducible repeat (first | refine blk_drewN ?_ _ | refine blk_drew ?_ | refine blk_alloc ?_ _)); exact BK338.out) hb)
             have n5_ := Aside0.mk (blk_below (g := gb343) (o := .cells #[.bool t339, .slice Ao10 t340.length co10] 27 (0, 0)) (by (with_reducible repeat (first | refine blk_drewN ?_ _ | refine blk_drew ?_ | refine blk_alloc ?_ _)); exact BK343.out) hb)
             have n6_ := Aside0.mk (blk_below (g := gb363) (o := .cells #[.bool false, .slice none 0 0] 27 (0, 0)) (by (with_reducible repeat (first | refine blk_drewN ?_ _ | refine blk_drew ?_ | refine blk_alloc ?_ _)); exact BK363.out) hb)
             have n7_ := Aside0.mk (below_step (by repeat (first | (with_reducible first | exact HB.out | apply below_alloc | apply pw_below_drewN | apply below_drew1 | refine below_set ?_ GE338.out | refine below_set ?_ GE343.out | refine below_set ?_ GE363.out) | exact HB.out)) hb)
             clear HO_344001 HO353 BK338 BK343 BK363 HB
             have HO_344001 := n0_
             have HO353 := n1_
             have HO357 := n2_
             have HO361 := n3_
             have BK338 := n4_
             have BK343 := n5_
             have BK363 := n6_
             have HB := n7_
             clear n0_ n1_ n2_ n3_ n4_ n5_ n6_ n7_
             (try clear hb)
             (try clear hb2)
             (try clear hk)
             (try clear hi)
             (try clear ho0)
             (try clear ho1)
             refine hK.out _ _ ⟨(blk_cell BK338.out 0).trans rfl, (blk_cell BK338.out 1).trans rfl⟩ (fun hHeld => ?_)
             clear hK K
             refine norm_ (a' := ?_) ?_ ?_
             rotate_left
             ·show Act.put _ (some 35) _ = _
              simp only [Act.put, List.setIfInBounds_toArray, List.set_cons_zero, List.set_cons_succ, i64_w, i32_w]
              rfl
             refine pure_ (i := 5) (N := some 30) (v := ?_) (a' := ?_) #[true, true, true, true, true, true, false, false, false, true, false, false] rfl rfl (any_of HT_.out (by kernel_rfl)) (fun _ _ _ h => h) (Or.inl ⟨by rfl, ?_⟩) ?_ ?_
             rotate_left
             ·intro w'
              go_simp
              with_reducible rfl
             rotate_left
             ·simp only [Act.put, List.setIfInBounds_toArray, List.set_cons_zero, List.set_cons_succ, i64_w, i32_w]
              rfl
             refine pure_ (i := 6) (N := some 36) (v := ?_) (a' := ?_) #[true, true, true, true, true, true, true, false, false, true, false, false] rfl rfl (any_of HT_.out (by kernel_rfl)) (fun _ _ _ h => h) (Or.inl ⟨by rfl, ?_⟩) ?_ ?_
             rotate_left
             ·intro w'
              go_simp
              with_reducible rfl
             rotate_left
             ·simp only [Act.put, List.setIfInBounds_toArray, List.set_cons_zero, List.set_cons_succ, i64_w, i32_w]
              rfl
             refine pure_ (i := 7) (N := some 37) (v := ?_) (a' := ?_) #[true, true, true, true, true, true, true, true, false, true, false, false] rfl rfl (any_of HT_.out (by kernel_rfl)) (fun _ _ _ h => h) (Or.inl ⟨by rfl, ?_⟩) ?_ ?_
             rotate_left
             ·intro w'
              go_simp
              with_reducible rfl
             rotate_left
             ·simp only [Act.put, List.setIfInBounds_toArray, List.set_cons_zero, List.set_cons_succ, i64_w, i32_w]
              rfl
             exact norm_ (by first | (simp only [putAll, Act.put, List.setIfInBounds_toArray, List.set_cons_zero, List.set_cons_succ]; done) | (simp only [putAll, Act.put, List.setIfInBounds_toArray, List.set_cons_zero, List.set_cons_succ]; rfl)) (hJ3_4_9 (.slice Ao37 t351.length co37, v356, v360, gb363) _ ⟨hHeld, (by (with_reducible repeat (first | apply Kd.V_alloc | apply Kd.V_drewN | apply Kd.V_drew)); exact HO353.out), (by (with_reducible repeat (first | apply Kd.V_alloc | apply Kd.V_drewN | apply Kd.V_drew)); exact HO357.out), (by (with_reducible repeat (first | apply Kd.V_alloc | apply Kd.V_drewN | apply Kd.V_drew)); exact HO361.out), (by (with_reducible repeat (first | apply Kd.V_alloc | apply Kd.V_drewN | apply Kd.V_drew)); exact HO_344001.out), (by (with_reducible repeat (first | refine blk_drewN ?_ _ | refine blk_drew ?_ | refine blk_alloc ?_ _)); exact BK338.out), (by (with_reducible repeat (first | refine blk_drewN ?_ _ | refine blk_drew ?_ | refine blk_alloc ?_ _)); exact BK343.out), (by (with_reducible repeat (first | refine blk_drewN ?_ _ | refine blk_drew ?_ | refine blk_alloc ?_ _)); exact BK363.out), GW363.out, GE363.out, NB338_363.out, NB363_338.out, NB343_363.out, NB363_343.out, (by repeat (first | (with_reducible first | exact HB.out | apply below_alloc | apply pw_below_drewN | apply below_drew1 | refine below_set ?_ GE338.out | refine below_set ?_ GE343.out | refine below_set ?_ GE363.out) | exact HB.out))⟩)
            ·skip
             refine box_step ?hg (N := 8) ?hd (cs := #[.bool false, .slice none 0 0]) (t := 27) ?hr ?_; (case hd => rfl); (case hg => rfl); (case hr => first | (go_simp; done) | (go_simp; rfl))
             intro gb362 hg w37 hbox hb
             have n0_ := Aside0.mk (Kd.V_below (Kd.V_elderB (by (with_reducible repeat (first | apply Kd.V_alloc | apply Kd.V_drewN | apply Kd.V_drew)); exact HO_344001.out) gb362 (Nat.le_of_eq hg.symm)) hb)
             have n1_ := Aside0.mk (Kd.V_below (Kd.V_elderB (by (with_reducible repeat (first | apply Kd.V_alloc | apply Kd.V_drewN | apply Kd.V_drew)); exact HO353.out) gb362 (Nat.le_of_eq hg.symm)) hb)
             have n2_ := Aside0.mk (blk_below (g := gb338) (o := .cells #[.bool true, .slice A0_1 l0_1.length c0_1] 27 (0, 0)) (by (with_reducible repeat (first | refine blk_drewN ?_ _ | refine blk_drew ?_ | refine blk_alloc ?_ _)); exact BK338.out) hb)
             have n3_ := Aside0.mk (blk_below (g := gb343) (o := .cells #[.bool t339, .slice Ao10 t340.length co10] 27 (0, 0)) (by (with_reducible repeat (first | refine blk_drewN ?_ _ | refine blk_drew ?_ | refine blk_alloc ?_ _)); exact BK343.out) hb)
             have n4_ := Aside0.mk (blk_below (g := gb363) (o := .cells #[.bool false, .slice none 0 0] 27 (0, 0)) (by (with_reducible repeat (first | refine blk_drewN ?_ _ | refine blk_drew ?_ | refine blk_alloc ?_ _)); exact BK363.out) hb)
             have n5_ := Aside0.mk (below_step (by repeat (first | (with_reducible first | exact HB.out | apply below_alloc | apply pw_below_drewN | apply below_drew1 | refine below_set ?_ GE338.out | refine below_set ?_ GE343.out | refine below_set ?_ GE363.out) | exact HB.out)) hb)
             have n6_ := Aside0.mk (hbox)
             have n7_ := Aside0.mk ((by rw [hg]; exact (below_size (by repeat (first | (with_reducible first | exact HB.out | apply below_alloc | apply pw_below_drewN | apply below_drew1 | refine below_set ?_ GE338.out | refine below_set ?_ GE343.out | refine below_set ?_ GE363.out) | exact HB.out))) : w.heap.size ≤ gb362))
             have n8_ := Aside0.mk ((by rw [hg]; exact (below_size (by repeat (first | (with_reducible first | exact HB.out | apply below_alloc | apply pw_below_drewN | apply below_drew1 | refine below_set ?_ GE338.out | refine below_set ?_ GE343.out | refine below_set ?_ GE363.out) | exact HB.out))) : w.heap.size ≤ gb362))
             have n9_ := Aside0.mk ((by rw [hg]; exact Nat.ne_of_lt (blk_lt (g := gb338) (o := .cells #[.bool true, .slice A0_1 l0_1.length c0_1] 27 (0, 0)) (by (with_reducible repeat (first | refine blk_drewN ?_ _ | refine blk_drew ?_ | refine blk_alloc ?_ _)); exact BK338.out)) : gb338 ≠ gb362))
             have n10_ := Aside0.mk ((by rw [hg]; exact Nat.ne_of_gt (blk_lt (g := gb338) (o := .cells #[.bool true, .slice A0_1 l0_1.length c0_1] 27 (0, 0)) (by (with_reducible repeat (first | refine blk_drewN ?_ _ | refine blk_drew ?_ | refine blk_alloc ?_ _)); exact BK338.out)) : gb362 ≠ gb338))
             have n11_ := Aside0.mk ((by rw [hg]; exact Nat.ne_of_lt (blk_lt (g := gb343) (o := .cells #[.bool t339, .slice Ao10 t340.length co10] 27 (0, 0)) (by (with_reducible repeat (first | refine blk_drewN ?_ _ | refine blk_drew ?_ | refine blk_alloc ?_ _)); exact BK343.out)) : gb343 ≠ gb362))
             have n12_ := Aside0.mk ((by rw [hg]; exact Nat.ne_of_gt (blk_lt (g := gb343) (o := .cells #[.bool t339, .slice Ao10 t340.length co10] 27 (0, 0)) (by (with_reducible repeat (first | refine blk_drewN ?_ _ | refine blk_drew ?_ | refine blk_alloc ?_ _)); exact BK343.out)) : gb362 ≠ gb343))
             have n13_ := Aside0.mk ((by rw [hg]; exact Nat.ne_of_lt (blk_lt (g := gb363) (o := .cells #[.bool false, .slice none 0 0] 27 (0, 0)) (by (with_reducible repeat (first | refine blk_drewN ?_ _ | refine blk_drew ?_ | refine blk_alloc ?_ _)); exact BK363.out)) : gb363 ≠ gb362))
             have n14_ := Aside0.mk ((by rw [hg]; exact Nat.ne_of_gt (blk_lt (g := gb363) (o := .cells #[.bool false, .slice none 0 0] 27 (0, 0)) (by (with_reducible repeat (first | refine blk_drewN ?_ _ | refine blk_drew ?_ | refine blk_alloc ?_ _)); exact BK363.out)) : gb362 ≠ gb363))
             clear HO_344001 HO353 BK338 BK343 BK363 HB
             have HO_344001 := n0_
             have HO353 := n1_
             have BK338 := n2_
             have BK343 := n3_
             have BK363 := n4_
             have HB := n5_
             have BK362 := n6_
             have GW362 := n7_
             have GE362 := n8_
             have NB338_362 := n9_
             have NB362_338 := n10_
             have NB343_362 := n11_
             have NB362_343 := n12_
             have NB363_362 := n13_
             have NB362_363 := n14_
             clear n0_ n1_ n2_ n3_ n4_ n5_ n6_ n7_ n8_ n9_ n10_ n11_ n12_ n13_ n14_ hb hbox hg
             refine hK.out _ _ ⟨(blk_cell BK338.out 0).trans rfl, (blk_cell BK338.out 1).trans rfl⟩ (fun hHeld => ?_)
             clear hK K
             refine norm_ (a' := ?_) ?_ ?_
             rotate_left
             ·show Act.put _ (some 8) _ = _
              simp only [Act.put, List.setIfInBounds_toArray, List.set_cons_zero, List.set_cons_succ, i64_w, i32_w]
              rfl
             exact norm_ (by first | (simp only [putAll, Act.put, List.setIfInBounds_toArray, List.set_cons_zero, List.set_cons_succ]; done) | (simp only [putAll, Act.put, List.setIfInBounds_toArray, List.set_cons_zero, List.set_cons_succ]; rfl)) (hJ3_8_9 ((.slice Ao37 t351.length co37), gb362, gb363) _ ⟨hHeld, (by (with_reducible repeat (first | apply Kd.V_alloc | apply Kd.V_drewN | apply Kd.V_drew)); exact Kd.V_mono HO353.out (fun _ hk => ⟨hk.1.1, ⟨hk.1.2.1, ⟨hk.2, hk.1.2.2⟩⟩⟩)), (by (with_reducible repeat (first | apply Kd.V_alloc | apply Kd.V_drewN | apply Kd.V_drew)); exact Kd.V_mono HO_344001.out (fun _ hk => ⟨hk.1.1, ⟨hk.1.2.1, ⟨hk.2, hk.1.2.2⟩⟩⟩)), (by (with_reducible repeat (first | refine blk_drewN ?_ _ | refine blk_drew ?_ | refine blk_alloc ?_ _)); exact BK338.out), (by (with_reducible repeat (first | refine blk_drewN ?_ _ | refine blk_drew ?_ | refine blk_alloc ?_ _)); exact BK343.out), (by (with_reducible repeat (first | refine blk_drewN ?_ _ | refine blk_drew ?_ | refine blk_alloc ?_ _)); exact BK362.out), (by (with_reducible repeat (first | refine blk_drewN ?_ _ | refine blk_drew ?_ | refine blk_alloc ?_ _)); exact BK363.out), GW362.out, GE362.out, NB338_362.out, NB362_338.out, NB343_362.out, NB362_343.out, NB363_362.out, NB362_363.out, GW363.out, GE363.out, NB338_363.out, NB363_338.out, NB343_363.out, NB363_343.out, (by repeat (first | (with_reducible first | exact HB.out | apply below_alloc | apply pw_below_drewN | apply below_drew1 | refine below_set ?_ GE338.out | refine below_set ?_ GE343.out | refine below_set ?_ GE363.out | refine below_set ?_ GE362.out) | exact HB.out))⟩)
          ·skip
           rintro ⟨v352, gb362⟩ w36 ⟨hS_, h0_, h1_, h2_, h3_, h4_, h5_, h6_, h7_, h8_, h9_, h10_, h11_⟩
           have n0_ : Aside0 (Kd.V (Kd.int .u32) 22 w36 w.heap.size (fun k_ => k_ ≠ gb338 ∧ k_ ≠ gb343 ∧ k_ ≠ gb362) v352 t351) := ⟨h0_⟩
           have n1_ : Aside0 (Kd.V (Kd.int .u32) 22 w36 w.heap.size (fun k_ => k_ ≠ gb338 ∧ k_ ≠ gb343 ∧ k_ ≠ gb362) (.slice Ao10 t340.length co10) t340) := ⟨h1_⟩
           have n2_ : Aside0 (w36.heap[gb338]? = some (.cells #[.bool true, .slice A0_1 l0_1.length c0_1] 27 (0, 0))) := ⟨h2_⟩
           have n3_ : Aside0 (w36.heap[gb343]? = some (.cells #[.bool t339, .slice Ao10 t340.length co10] 27 (0, 0))) := ⟨h3_⟩
           have n4_ : Aside0 (w36.heap[gb362]? = some (.cells #[.bool false, .slice none 0 0] 27 (0, 0))) := ⟨h4_⟩
           have n5_ : Aside0 (w.heap.size ≤ gb362) := ⟨h5_⟩
           have n6_ : Aside0 (w.heap.size ≤ gb362) := ⟨h6_⟩
           have n7_ : Aside0 (gb338 ≠ gb362) := ⟨h7_⟩
           have n8_ : Aside0 (gb362 ≠ gb338) := ⟨h8_⟩
           have n9_ : Aside0 (gb343 ≠ gb362) := ⟨h9_⟩
           have n10_ : Aside0 (gb362 ≠ gb343) := ⟨h10_⟩
           have n11_ : Aside0 (Below w.heap.size w w36) := ⟨h11_⟩
           clear HO_344001 BK338 BK343 HB h0_ h1_ h2_ h3_ h4_ h5_ h6_ h7_ h8_ h9_ h10_ h11_
           have HO353 := n0_
           have HO_344001 := n1_
           have BK338 := n2_
           have BK343 := n3_
           have BK362 := n4_
           have GW362 := n5_
           have GE362 := n6_
           have NB338_362 := n7_
           have NB362_338 := n8_
           have NB343_362 := n9_
           have NB362_343 := n10_
           have HB := n11_
           clear n0_ n1_ n2_ n3_ n4_ n5_ n6_ n7_ n8_ n9_ n10_ n11_
           have hHeld : w36.cell? ⟨gb338, 0, none⟩ = some (.bool true) ∧ w36.cell? ⟨gb338, 1, none⟩ = some (.slice A0_1 l0_1.length c0_1) := hS_
           obtain ⟨Ao37, co37, eo37⟩ := Kd.V_slice HO353.out
           (first | subst eo37 | (injection eo37 with f1_ f2_ f3_; have f4_ := f1_.symm; have f5_ := f3_.symm; clear f1_ f2_ f3_; subst f4_; subst f5_))
           refine norm_ (a' := ?_) ?_ ?_
           rotate_left
           ·simp only [putAll, Act.put, List.setIfInBounds_toArray, List.set_cons_zero, List.set_cons_succ]
            rfl
           refine two_ (i := 4) (j := 9) (Ni := some 35) (Nj := some 9) #[true, true, true, true, true, false, false, false, true, false, false, false] #[true, true, true, true, false, false, false, false, true, true, false, false] rfl rfl rfl rfl (two_of HT_.out (by kernel_rfl)) (by decide) (by decide) (fun K hK => ?_) (fun K hK => ?_)
           ·skip
            refine goes_ Tryz.func26 (by kernel_rfl) rfl #[.agg #[.bool true, .slice A0_1 l0_1.length c0_1], .agg #[.bool t350, .slice Ao37 t351.length co37]] (by rfl) rfl rfl (by (try simp only [List.map_toArray, List.map_cons, List.map_nil]); first | done | rfl | (simp only [List.length_drop, List.length_take]; rfl)) ?_
            with_reducible refine (spec_WideDiv.calls kj3 true _ _ l0_1 t350 _ _ t351 t354 t355 t358 t359 _ ?side1 ?side2 ?side3 ?side4 A26.out).mono ?_
            (case side1 => repeat (first | exact (Kd.C_below HR0_1.out HB.out) | (with_reducible refine Kd.C_alloc ?_ _) | (with_reducible refine Kd.C_drewN ?_ _) | (with_reducible refine Kd.C_drew ?_)))
            (case side2 => exact HC0_1.out)
            (case side3 => repeat (first | exact (Kd.V_reads' HO353.out).2.2 | (with_reducible refine Kd.C_alloc ?_ _) | (with_reducible refine Kd.C_drewN ?_ _) | (with_reducible refine Kd.C_drew ?_)))
            (case side4 => exact (Kd.V_reads' HO353.out).2.1)
            rintro e w38 ⟨v356, v360, rfl, ho0, ho1, hb⟩
            refine ⟨_, rfl, ?_⟩
            have n0_ := Aside0.mk (Kd.V_below (by (with_reducible repeat (first | apply Kd.V_alloc | apply Kd.V_drewN | apply Kd.V_drew)); exact HO_344001.out) hb)
            have n1_ := Aside0.mk (Kd.V_below (by (with_reducible repeat (first | apply Kd.V_alloc | apply Kd.V_drewN | apply Kd.V_drew)); exact HO353.out) hb)
            have n2_ := Aside0.mk (Kd.V_lower (Kd.V_mono (ok' := fun k_ => k_ ≠ gb338 ∧ k_ ≠ gb343 ∧ k_ ≠ gb362) ho0 (fun k_ hk_ => ⟨(Kd.freshB (g := gb338) (o := .cells #[.bool true, .slice A0_1 l0_1.length c0_1] 27 (0, 0)) (by (with_reducible repeat (first | refine blk_drewN ?_ _ | refine blk_drew ?_ | refine blk_alloc ?_ _)); exact BK338.out) k_ hk_), (Kd.freshB (g := gb343) (o := .cells #[.bool t339, .slice Ao10 t340.length co10] 27 (0, 0)) (by (with_reducible repeat (first | refine blk_drewN ?_ _ | refine blk_drew ?_ | refine blk_alloc ?_ _)); exact BK343.out) k_ hk_), (Kd.freshB (g := gb362) (o := .cells #[.bool false, .slice none 0 0] 27 (0, 0)) (by (with_reducible repeat (first | refine blk_drewN ?_ _ | refine blk_drew ?_ | refine blk_alloc ?_ _)); exact BK362.out) k_ hk_)⟩)) (below_size (by repeat (first | (with_reducible first | exact HB.out | apply below_alloc | apply pw_below_drewN | apply below_drew1 | refine below_set ?_ GE338.out | refine below_set ?_ GE343.out | refine below_set ?_ GE362.out) | exact HB.out))))
            have n3_ := Aside0.mk (Kd.V_lower (Kd.V_mono (ok' := fun k_ => k_ ≠ gb338 ∧ k_ ≠ gb343 ∧ k_ ≠ gb362) ho1 (fun k_ hk_ => ⟨(Kd.freshB (g := gb338) (o := .cells #[.bool true, .slice A0_1 l0_1.length c0_1] 27 (0, 0)) (by (with_reducible repeat (first | refine blk_drewN ?_ _ | refine blk_drew ?_ | refine blk_alloc ?_ _)); exact BK338.out) k_ hk_), (Kd.freshB (g := gb343) (o := .cells #[.bool t339, .slice Ao10 t340.length co10] 27 (0, 0)) (by (with_reducible repeat (first | refine blk_drewN ?_ _ | refine blk_drew ?_ | refine blk_alloc ?_ _)); exact BK343.out) k_ hk_), (Kd.freshB (g := gb362) (o := .cells #[.bool false, .slice none 0 0] 27 (0, 0)) (by (with_reducible repeat (first | refine blk_drewN ?_ _ | refine blk_drew ?_ | refine blk_alloc ?_ _)); exact BK362.out) k_ hk_)⟩)) (below_size (by repeat (first | (with_reducible first | exact HB.out | apply below_alloc | apply pw_below_drewN | apply below_drew1 | refine below_set ?_ GE338.out | refine below_set ?_ GE343.out | refine below_set ?_ GE362.out) | exact HB.out))))
            have n4_ := Aside0.mk (blk_below (g := gb338) (o := .cells #[.bool true, .slice A0_1 l0_1.length c0_1] 27 (0, 0)) (by (with_reducible repeat (first | refine blk_drewN ?_ _ | refine blk_drew ?_ | refine blk_alloc ?_ _)); exact BK338.out) hb)
            have n5_ := Aside0.mk (blk_below (g := gb343) (o := .cells #[.bool t339, .slice Ao10 t340.length co10] 27 (0, 0)) (by (with_reducible repeat (first | refine blk_drewN ?_ _ | refine blk_drew ?_ | refine blk_alloc ?_ _)); exact BK343.out) hb)
            have n6_ := Aside0.mk (blk_below (g := gb362) (o := .cells #[.bool false, .slice none 0 0] 27 (0, 0)) (by (with_reducible repeat (first | refine blk_drewN ?_ _ | refine blk_drew ?_ | refine blk_alloc ?_ _)); exact BK362.out) hb)
            have n7_ := Aside0.mk (below_step (by repeat (first | (with_reducible first | exact HB.out | apply below_alloc | apply pw_below_drewN | apply below_drew1 | refine below_set ?_ GE338.out | refine below_set ?_ GE343.out | refine below_set ?_ GE362.out) | exact HB.out)) hb)
            clear HO_344001 HO353 BK338 BK343 BK362 HB
            have HO_344001 := n0_
            have HO353 := n1_
            have HO357 := n2_
            have HO361 := n3_
            have BK338 := n4_
            have BK343 := n5_
            have BK362 := n6_
            have HB := n7_
            clear n0_ n1_ n2_ n3_ n4_ n5_ n6_ n7_
            (try clear hb)
            (try clear hb2)
            (try clear hk)
            (try clear hi)
            (try clear ho0)
            (try clear ho1)
            refine hK.out _ _ ⟨(blk_cell BK338.out 0).trans rfl, (blk_cell BK338.out 1).trans rfl⟩ (fun hHeld => ?_)
            clear hK K
            refine norm_ (a' := ?_) ?_ ?_
            rotate_left
            ·show Act.put _ (some 35) _ = _
             simp only [Act.put, List.setIfInBounds_toArray, List.set_cons_zero, List.set_cons_succ, i64_w, i32_w]
             rfl
            refine pure_ (i := 5) (N := some 30) (v := ?_) (a' := ?_) #[true, true, true, true, true, true, false, false, true, false, false, false] rfl rfl (any_of HT_.out (by kernel_rfl)) (fun _ _ _ h => h) (Or.inl ⟨by rfl, ?_⟩) ?_ ?_
            rotate_left
            ·intro w'
             go_simp
             with_reducible rfl
            rotate_left
            ·simp only [Act.put, List.setIfInBounds_toArray, List.set_cons_zero, List.set_cons_succ, i64_w, i32_w]
             rfl
            refine pure_ (i := 6) (N := some 36) (v := ?_) (a' := ?_) #[true, true, true, true, true, true, true, false, true, false, false, false] rfl rfl (any_of HT_.out (by kernel_rfl)) (fun _ _ _ h => h) (Or.inl ⟨by rfl, ?_⟩) ?_ ?_
            rotate_left
            ·intro w'
             go_simp
             with_reducible rfl
            rotate_left
            ·simp only [Act.put, List.setIfInBounds_toArray, List.set_cons_zero, List.set_cons_succ, i64_w, i32_w]
             rfl
            refine pure_ (i := 7) (N := some 37) (v := ?_) (a' := ?_) #[true, true, true, true, true, true, true, true, true, false, false, false] rfl rfl (any_of HT_.out (by kernel_rfl)) (fun _ _ _ h => h) (Or.inl ⟨by rfl, ?_⟩) ?_ ?_
            rotate_left
            ·intro w'
             go_simp
             with_reducible rfl
            rotate_left
            ·simp only [Act.put, List.setIfInBounds_toArray, List.set_cons_zero, List.set_cons_succ, i64_w, i32_w]
             rfl
            exact norm_ (by first | (simp only [putAll, Act.put, List.setIfInBounds_toArray, List.set_cons_zero, List.set_cons_succ]; done) | (simp only [putAll, Act.put, List.setIfInBounds_toArray, List.set_cons_zero, List.set_cons_succ]; rfl)) (hJ3_4_8 (.slice Ao37 t351.length co37, v356, v360, gb362) _ ⟨hHeld, (by (with_reducible repeat (first | apply Kd.V_alloc | apply Kd.V_drewN | apply Kd.V_drew)); exact HO353.out), (by (with_reducible repeat (first | apply Kd.V_alloc | apply Kd.V_drewN | apply Kd.V_drew)); exact HO357.out), (by (with_reducible repeat (first | apply Kd.V_alloc | apply Kd.V_drewN | apply Kd.V_drew)); exact HO361.out), (by (with_reducible repeat (first | apply Kd.V_alloc | apply Kd.V_drewN | apply Kd.V_drew)); exact HO_344001.out), (by (with_reducible repeat (first | refine blk_drewN ?_ _ | refine blk_drew ?_ | refine blk_alloc ?_ _)); exact BK338.out), (by (with_reducible repeat (first | refine blk_drewN ?_ _ | refine blk_drew ?_ | refine blk_alloc ?_ _)); exact BK343.out), (by (with_reducible repeat (first | refine blk_drewN ?_ _ | refine blk_drew ?_ | refine blk_alloc ?_ _)); exact BK362.out), GW362.out, GE362.out, NB338_362.out, NB362_338.out, NB343_362.out, NB362_343.out, (by repeat (first | (with_reducible first | exact HB.out | apply below_alloc | apply pw_below_drewN | apply below_drew1 | refine below_set ?_ GE338.out | refine below_set ?_ GE343.out | refine below_set ?_ GE362.out) | exact HB.out))⟩)
           ·skip
            refine box_step ?hg (N := 9) ?hd (cs := #[.bool false, .slice none 0 0]) (t := 27) ?hr ?_; (case hd => rfl); (case hg => rfl); (case hr => first | (go_simp; done) | (go_simp; rfl))
            intro gb363 hg w37 hbox hb
            have n0_ := Aside0.mk (Kd.V_below (Kd.V_elderB (by (with_reducible repeat (first | apply Kd.V_alloc | apply Kd.V_drewN | apply Kd.V_drew)); exact HO_344001.out) gb363 (Nat.le_of_eq hg.symm)) hb)
            have n1_ := Aside0.mk (Kd.V_below (Kd.V_elderB (by (with_reducible repeat (first | apply Kd.V_alloc | apply Kd.V_drewN | apply Kd.V_drew)); exact HO353.out) gb363 (Nat.le_of_eq hg.symm)) hb)
            have n2_ := Aside0.mk (blk_below (g := gb338) (o := .cells #[.bool true, .slice A0_1 l0_1.length c0_1] 27 (0, 0)) (by (with_reducible repeat (first | refine blk_drewN ?_ _ | refine blk_drew ?_ | refine blk_alloc ?_ _)); exact BK338.out) hb)
            have n3_ := Aside0.mk (blk_below (g := gb343) (o := .cells #[.bool t339, .slice Ao10 t340.length co10] 27 (0, 0)) (by (with_reducible repeat (first | refine blk_drewN ?_ _ | refine blk_drew ?_ | refine blk_alloc ?_ _)); exact BK343.out) hb)
            have n4_ := Aside0.mk (blk_below (g := gb362) (o := .cells #[.bool false, .slice none 0 0] 27 (0, 0)) (by (with_reducible repeat (first | refine blk_drewN ?_ _ | refine blk_drew ?_ | refine blk_alloc ?_ _)); exact BK362.out) hb)
            have n5_ := Aside0.mk (below_step (by repeat (first | (with_reducible first | exact HB.out | apply below_alloc | apply pw_below_drewN | apply below_drew1 | refine below_set ?_ GE338.out | refine below_set ?_ GE343.out | refine below_set ?_ GE362.out) | exact HB.out)) hb)
            have n6_ := Aside0.mk (hbox)
            have n7_ := Aside0.mk ((by rw [hg]; exact (below_size (by repeat (first | (with_reducible first | exact HB.out | apply below_alloc | apply pw_below_drewN | apply below_drew1 | refine below_set ?_ GE338.out | refine below_set ?_ GE343.out | refine below_set ?_ GE362.out) | exact HB.out))) : w.heap.size ≤ gb363))
            have n8_ := Aside0.mk ((by rw [hg]; exact (below_size (by repeat (first | (with_reducible first | exact HB.out | apply below_alloc | apply pw_below_drewN | apply below_drew1 | refine below_set ?_ GE338.out | refine below_set ?_ GE343.out | refine below_set ?_ GE362.out) | exact HB.out))) : w.heap.size ≤ gb363))
            have n9_ := Aside0.mk ((by rw [hg]; exact Nat.ne_of_lt (blk_lt (g := gb338) (o := .cells #[.bool true, .slice A0_1 l0_1.length c0_1] 27 (0, 0)) (by (with_reducible repeat (first | refine blk_drewN ?_ _ | refine blk_drew ?_ | refine blk_alloc ?_ _)); exact BK338.out)) : gb338 ≠ gb363))
            have n10_ := Aside0.mk ((by rw [hg]; exact Nat.ne_of_gt (blk_lt (g := gb338) (o := .cells #[.bool true, .slice A0_1 l0_1.length c0_1] 27 (0, 0)) (by (with_reducible repeat (first | refine blk_drewN ?_ _ | refine blk_drew ?_ | refine blk_alloc ?_ _)); exact BK338.out)) : gb363 ≠ gb338))
            have n11_ := Aside0.mk ((by rw [hg]; exact Nat.ne_of_lt (blk_lt (g := gb343) (o := .cells #[.bool t339, .slice Ao10 t340.length co10] 27 (0, 0)) (by (with_reducible repeat (first | refine blk_drewN ?_ _ | refine blk_drew ?_ | refine blk_alloc ?_ _)); exact BK343.out)) : gb343 ≠ gb363))
            have n12_ := Aside0.mk ((by rw [hg]; exact Nat.ne_of_gt (blk_lt (g := gb343) (o := .cells #[.bool t339, .slice Ao10 t340.length co10] 27 (0, 0)) (by (with_reducible repeat (first | refine blk_drewN ?_ _ | refine blk_drew ?_ | refine blk_alloc ?_ _)); exact BK343.out)) : gb363 ≠ gb343))
            have n13_ := Aside0.mk ((by rw [hg]; exact Nat.ne_of_lt (blk_lt (g := gb362) (o := .cells #[.bool false, .slice none 0 0] 27 (0, 0)) (by (with_reducible repeat (first | refine blk_drewN ?_ _ | refine blk_drew ?_ | refine blk_alloc ?_ _)); exact BK362.out)) : gb362 ≠ gb363))
            have n14_ := Aside0.mk ((by rw [hg]; exact Nat.ne_of_gt (blk_lt (g := gb362) (o := .cells #[.bool false, .slice none 0 0] 27 (0, 0)) (by (with_reducible repeat (first | refine blk_drewN ?_ _ | refine blk_drew ?_ | refine blk_alloc ?_ _)); exact BK362.out)) : gb363 ≠ gb362))
            clear HO_344001 HO353 BK338 BK343 BK362 HB
            have HO_344001 := n0_
            have HO353 := n1_
            have BK338 := n2_
            have BK343 := n3_
            have BK362 := n4_
            have HB := n5_
            have BK363 := n6_
            have GW363 := n7_
            have GE363 := n8_
            have NB338_363 := n9_
            have NB363_338 := n10_
            have NB343_363 := n11_
            have NB363_343 := n12_
            have NB362_363 := n13_
            have NB363_362 := n14_
            clear n0_ n1_ n2_ n3_ n4_ n5_ n6_ n7_ n8_ n9_ n10_ n11_ n12_ n13_ n14_ hb hbox hg
            refine hK.out _ _ ⟨(blk_cell BK338.out 0).trans rfl, (blk_cell BK338.out 1).trans rfl⟩ (fun hHeld => ?_)
            clear hK K
            refine norm_ (a' := ?_) ?_ ?_
            rotate_left
            ·show Act.put _ (some 9) _ = _
             simp only [Act.put, List.setIfInBounds_toArray, List.set_cons_zero, List.set_cons_succ, i64_w, i32_w]
             rfl
            exact norm_ (by first | (simp only [putAll, Act.put, List.setIfInBounds_toArray, List.set_cons_zero, List.set_cons_succ]; done) | (simp only [putAll, Act.put, List.setIfInBounds_toArray, List.set_cons_zero, List.set_cons_succ]; rfl)) (hJ3_8_9 ((.slice Ao37 t351.length co37), gb362, gb363) _ ⟨hHeld, (by (with_reducible repeat (first | apply Kd.V_alloc | apply Kd.V_drewN | apply Kd.V_drew)); exact Kd.V_mono HO353.out (fun _ hk => ⟨hk.1.1, ⟨hk.1.2.1, ⟨hk.1.2.2, hk.2⟩⟩⟩)), (by (with_reducible repeat (first | apply Kd.V_alloc | apply Kd.V_drewN | apply Kd.V_drew)); exact Kd.V_mono HO_344001.out (fun _ hk => ⟨hk.1.1, ⟨hk.1.2.1, ⟨hk.1.2.2, hk.2⟩⟩⟩)), (by (with_reducible repeat (first | refine blk_drewN ?_ _ | refine blk_drew ?_ | refine blk_alloc ?_ _)); exact BK338.out), (by (with_reducible repeat (first | refine blk_drewN ?_ _ | refine blk_drew ?_ | refine blk_alloc ?_ _)); exact BK343.out), (by (with_reducible repeat (first | refine blk_drewN ?_ _ | refine blk_drew ?_ | refine blk_alloc ?_ _)); exact BK362.out), (by (with_reducible repeat (first | refine blk_drewN ?_ _ | refine blk_drew ?_ | refine blk_alloc ?_ _)); exact BK363.out), GW362.out, GE362.out, NB338_362.out, NB362_338.out, NB343_362.out, NB362_343.out, NB363_362.out, NB362_363.out, GW363.out, GE363.out, NB338_363.out, NB363_338.out, NB343_363.out, NB363_343.out, (by repeat (first | (with_reducible first | exact HB.out | apply below_alloc | apply pw_below_drewN | apply below_drew1 | refine below_set ?_ GE338.out | refine below_set ?_ GE343.out | refine below_set ?_ GE362.out | refine below_set ?_ GE363.out) | exact HB.out))⟩)
         ·skip
          rintro ⟨v352, v356, v360⟩ w37 ⟨hS_, h0_, h1_, h2_, h3_, h4_, h5_, h6_⟩
          have n0_ : Aside0 (Kd.V (Kd.int .u32) 22 w37 w.heap.size (fun k_ => k_ ≠ gb338 ∧ k_ ≠ gb343) v352 t351) := ⟨h0_⟩
          have n1_ : Aside0 (Kd.V (Kd.int .u32) 22 w37 w.heap.size (fun k_ => k_ ≠ gb338 ∧ k_ ≠ gb343) v356 t355) := ⟨h1_⟩
          have n2_ : Aside0 (Kd.V (Kd.int .u32) 22 w37 w.heap.size (fun k_ => k_ ≠ gb338 ∧ k_ ≠ gb343) v360 t359) := ⟨h2_⟩
          have n3_ : Aside0 (Kd.V (Kd.int .u32) 22 w37 w.heap.size (fun k_ => k_ ≠ gb338 ∧ k_ ≠ gb343) (.slice Ao10 t340.length co10) t340) := ⟨h3_⟩
          have n4_ : Aside0 (w37.heap[gb338]? = some (.cells #[.bool true, .slice A0_1 l0_1.length c0_1] 27 (0, 0))) := ⟨h4_⟩
          have n5_ : Aside0 (w37.heap[gb343]? = some (.cells #[.bool t339, .slice Ao10 t340.length co10] 27 (0, 0))) := ⟨h5_⟩
          have n6_ : Aside0 (Below w.heap.size w w37) := ⟨h6_⟩
          clear HO_344001 BK338 BK343 HB h0_ h1_ h2_ h3_ h4_ h5_ h6_
          have HO353 := n0_
          have HO357 := n1_
          have HO361 := n2_
          have HO_344001 := n3_
          have BK338 := n4_
          have BK343 := n5_
          have HB := n6_
          clear n0_ n1_ n2_ n3_ n4_ n5_ n6_
          have hHeld : w37.cell? ⟨gb338, 0, none⟩ = some (.bool true) ∧ w37.cell? ⟨gb338, 1, none⟩ = some (.slice A0_1 l0_1.length c0_1) := hS_
          refine norm_ (a' := ?_) ?_ ?_
          rotate_left
          ·simp only [putAll, Act.put, List.setIfInBounds_toArray, List.set_cons_zero, List.set_cons_succ]
           rfl
          refine two_ (i := 8) (j := 9) (Ni := some 8) (Nj := some 9) #[true, true, true, true, true, true, true, true, true, false, false, false] #[true, true, true, true, true, true, true, true, false, true, false, false] rfl rfl rfl rfl (two_of HT_.out (by kernel_rfl)) (by decide) (by decide) (fun K hK => ?_) (fun K hK => ?_)
          ·skip
           refine box_step ?hg (N := 8) ?hd (cs := #[.bool false, .slice none 0 0]) (t := 27) ?hr ?_; (case hd => rfl); (case hg => rfl); (case hr => first | (go_simp; done) | (go_simp; rfl))
           intro gb362 hg w38 hbox hb
           have n0_ := Aside0.mk (Kd.V_below (Kd.V_elderB (by (with_reducible repeat (first | apply Kd.V_alloc | apply Kd.V_drewN | apply Kd.V_drew)); exact HO_344001.out) gb362 (Nat.le_of_eq hg.symm)) hb)
           have n1_ := Aside0.mk (Kd.V_below (Kd.V_elderB (by (with_reducible repeat (first | apply Kd.V_alloc | apply Kd.V_drewN | apply Kd.V_drew)); exact HO353.out) gb362 (Nat.le_of_eq hg.symm)) hb)
           have n2_ := Aside0.mk (Kd.V_below (Kd.V_elderB (by (with_reducible repeat (first | apply Kd.V_alloc | apply Kd.V_drewN | apply Kd.V_drew)); exact HO357.out) gb362 (Nat.le_of_eq hg.symm)) hb)
           have n3_ := Aside0.mk (Kd.V_below (Kd.V_elderB (by (with_reducible repeat (first | apply Kd.V_alloc | apply Kd.V_drewN | apply Kd.V_drew)); exact HO361.out) gb362 (Nat.le_of_eq hg.symm)) hb)
           have n4_ := Aside0.mk (blk_below (g := gb338) (o := .cells #[.bool true, .slice A0_1 l0_1.length c0_1] 27 (0, 0)) (by (with_reducible repeat (first | refine blk_drewN ?_ _ | refine blk_drew ?_ | refine blk_alloc ?_ _)); exact BK338.out) hb)
           have n5_ := Aside0.mk (blk_below (g := gb343) (o := .cells #[.bool t339, .slice Ao10 t340.length co10] 27 (0, 0)) (by (with_reducible repeat (first | refine blk_drewN ?_ _ | refine blk_drew ?_ | refine blk_alloc ?_ _)); exact BK343.out) hb)
           have n6_ := Aside0.mk (below_step (by repeat (first | (with_reducible first | exact HB.out | apply below_alloc | apply pw_below_drewN | apply below_drew1 | refine below_set ?_ GE338.out | refine below_set ?_ GE343.out) | exact HB.out)) hb)
           have n7_ := Aside0.mk (hbox)
           have n8_ := Aside0.mk ((by rw [hg]; exact (below_size (by repeat (first | (with_reducible first | exact HB.out | apply below_alloc | apply pw_below_drewN | apply below_drew1 | refine below_set ?_ GE338.out | refine below_set ?_ GE343.out) | exact HB.out))) : w.heap.size ≤ gb362))
           have n9_ := Aside0.mk ((by rw [hg]; exact (below_size (by repeat (first | (with_reducible first | exact HB.out | apply below_alloc | apply pw_below_drewN | apply below_drew1 | refine below_set ?_ GE338.out | refine below_set ?_ GE343.out) | exact HB.out))) : w.heap.size ≤ gb362))
           have n10_ := Aside0.mk ((by rw [hg]; exact Nat.ne_of_lt (blk_lt (g := gb338) (o := .cells #[.bool true, .slice A0_1 l0_1.length c0_1] 27 (0, 0)) (by (with_reducible repeat (first | refine blk_drewN ?_ _ | refine blk_drew ?_ | refine blk_alloc ?_ _)); exact BK338.out)) : gb338 ≠ gb362))
           have n11_ := Aside0.mk ((by rw [hg]; exact Nat.ne_of_gt (blk_lt (g := gb338) (o := .cells #[.bool true, .slice A0_1 l0_1.length c0_1] 27 (0, 0)) (by (with_reducible repeat (first | refine blk_drewN ?_ _ | refine blk_drew ?_ | refine blk_alloc ?_ _)); exact BK338.out)) : gb362 ≠ gb338))
           have n12_ := Aside0.mk ((by rw [hg]; exact Nat.ne_of_lt (blk_lt (g := gb343) (o := .cells #[.bool t339, .slice Ao10 t340.length co10] 27 (0, 0)) (by (with_reducible repeat (first | refine blk_drewN ?_ _ | refine blk_drew ?_ | refine blk_alloc ?_ _)); exact BK343.out)) : gb343 ≠ gb362))
           have n13_ := Aside0.mk ((by rw [hg]; exact Nat.ne_of_gt (blk_lt (g := gb343) (o := .cells #[.bool t339, .slice Ao10 t340.length co10] 27 (0, 0)) (by (with_reducible repeat (first | refine blk_drewN ?_ _ | refine blk_drew ?_ | refine blk_alloc ?_ _)); exact BK343.out)) : gb362 ≠ gb343))
           clear HO_344001 HO353 HO357 HO361 BK338 BK343 HB
           have HO_344001 := n0_
           have HO353 := n1_
           have HO357 := n2_
           have HO361 := n3_
           have BK338 := n4_
           have BK343 := n5_
           have HB := n6_
           have BK362 := n7_
           have GW362 := n8_
           have GE362 := n9_
           have NB338_362 := n10_
           have NB362_338 := n11_
           have NB343_362 := n12_
           have NB362_343 := n13_
           clear n0_ n1_ n2_ n3_ n4_ n5_ n6_ n7_ n8_ n9_ n10_ n11_ n12_ n13_ hb hbox hg
           refine hK.out _ _ ⟨(blk_cell BK338.out 0).trans rfl, (blk_cell BK338.out 1).trans rfl⟩ (fun hHeld => ?_)
           clear hK K
           refine norm_ (a' := ?_) ?_ ?_
           rotate_left
           ·show Act.put _ (some 8) _ = _
            simp only [Act.put, List.setIfInBounds_toArray, List.set_cons_zero, List.set_cons_succ, i64_w, i32_w]
            rfl
           exact norm_ (by first | (simp only [putAll, Act.put, List.setIfInBounds_toArray, List.set_cons_zero, List.set_cons_succ]; done) | (simp only [putAll, Act.put, List.setIfInBounds_toArray, List.set_cons_zero, List.set_cons_succ]; rfl)) (hJ3_4_8 (v352, v356, v360, gb362) _ ⟨hHeld, (by (with_reducible repeat (first | apply Kd.V_alloc | apply Kd.V_drewN | apply Kd.V_drew)); exact Kd.V_mono HO353.out (fun _ hk => ⟨hk.1.1, ⟨hk.1.2, hk.2⟩⟩)), (by (with_reducible repeat (first | apply Kd.V_alloc | apply Kd.V_drewN | apply Kd.V_drew)); exact Kd.V_mono HO357.out (fun _ hk => ⟨hk.1.1, ⟨hk.1.2, hk.2⟩⟩)), (by (with_reducible repeat (first | apply Kd.V_alloc | apply Kd.V_drewN | apply Kd.V_drew)); exact Kd.V_mono HO361.out (fun _ hk => ⟨hk.1.1, ⟨hk.1.2, hk.2⟩⟩)), (by (with_reducible repeat (first | apply Kd.V_alloc | apply Kd.V_drewN | apply Kd.V_drew)); exact Kd.V_mono HO_344001.out (fun _ hk => ⟨hk.1.1, ⟨hk.1.2, hk.2⟩⟩)), (by (with_reducible repeat (first | refine blk_drewN ?_ _ | refine blk_drew ?_ | refine blk_alloc ?_ _)); exact BK338.out), (by (with_reducible repeat (first | refine blk_drewN ?_ _ | refine blk_drew ?_ | refine blk_alloc ?_ _)); exact BK343.out), (by (with_reducible repeat (first | refine blk_drewN ?_ _ | refine blk_drew ?_ | refine blk_alloc ?_ _)); exact BK362.out), GW362.out, GE362.out, NB338_362.out, NB362_338.out, NB343_362.out, NB362_343.out, (by repeat (first | (with_reducible first | exact HB.out | apply below_alloc | apply pw_below_drewN | apply below_drew1 | refine below_set ?_ GE338.out | refine below_set ?_ GE343.out | refine below_set ?_ GE362.out) | exact HB.out))⟩)
          ·skip
           refine box_step ?hg (N := 9) ?hd (cs := #[.bool false, .slice none 0 0]) (t := 27) ?hr ?_; (case hd => rfl); (case hg => rfl); (case hr => first | (go_simp; done) | (go_simp; rfl))
           intro gb363 hg w38 hbox hb
           have n0_ := Aside0.mk (Kd.V_below (Kd.V_elderB (by (with_reducible repeat (first | apply Kd.V_alloc | apply Kd.V_drewN | apply Kd.V_drew)); exact HO_344001.out) gb363 (Nat.le_of_eq hg.symm)) hb)
           have n1_ := Aside0.mk (Kd.V_below (Kd.V_elderB (by (with_reducible repeat (first | apply Kd.V_alloc | apply Kd.V_drewN | apply Kd.V_drew)); exact HO353.out) gb363 (Nat.le_of_eq hg.symm)) hb)
           have n2_ := Aside0.mk (Kd.V_below (Kd.V_elderB (by (with_reducible repeat (first | apply Kd.V_alloc | apply Kd.V_drewN | apply Kd.V_drew)); exact HO357.out) gb363 (Nat.le_of_eq hg.symm)) hb)
           have n3_ := Aside0.mk (Kd.V_below (Kd.V_elderB (by (with_reducible repeat (first | apply Kd.V_alloc | apply Kd.V_drewN | apply Kd.V_drew)); exact HO361.out) gb363 (Nat.le_of_eq hg.symm)) hb)
           have n4_ := Aside0.mk (blk_below (g := gb338) (o := .cells #[.bool true, .slice A0_1 l0_1.length c0_1] 27 (0, 0)) (by (with_reducible repeat (first | refine blk_drewN ?_ _ | refine blk_drew ?_ | refine blk_alloc ?_ _)); exact BK338.out) hb)
           have n5_ := Aside0.mk (blk_below (g := gb343) (o := .cells #[.bool t339, .slice Ao10 t340.length co10] 27 (0, 0)) (by (with_reducible repeat (first | refine blk_drewN ?_ _ | refine blk_drew ?_ | refine blk_alloc ?_ _)); exact BK343.out) hb)
           have n6_ := Aside0.mk (below_step (by repeat (first | (with_reducible first | exact HB.out | apply below_alloc | apply pw_below_drewN | apply below_drew1 | refine below_set ?_ GE338.out | refine below_set ?_ GE343.out) | exact HB.out)) hb)
           have n7_ := Aside0.mk (hbox)
           have n8_ := Aside0.mk ((by rw [hg]; exact (below_size (by repeat (first | (with_reducible first | exact HB.out | apply below_alloc | apply pw_below_drewN | apply below_drew1 | refine below_set ?_ GE338.out | refine below_set ?_ GE343.out) | exact HB.out))) : w.heap.size ≤ gb363))
           have n9_ := Aside0.mk ((by rw [hg]; exact (below_size (by repeat (first | (with_reducible first | exact HB.out | apply below_alloc | apply pw_below_drewN | apply below_drew1 | refine below_set ?_ GE338.out | refine below_set ?_ GE343.out) | exact HB.out))) : w.heap.size ≤ gb363))
           have n10_ := Aside0.mk ((by rw [hg]; exact Nat.ne_of_lt (blk_lt (g := gb338) (o := .cells #[.bool true, .slice A0_1 l0_1.length c0_1] 27 (0, 0)) (by (with_reducible repeat (first | refine blk_drewN ?_ _ | refine blk_drew ?_ | refine blk_alloc ?_ _)); exact BK338.out)) : gb338 ≠ gb363))
           have n11_ := Aside0.mk ((by rw [hg]; exact Nat.ne_of_gt (blk_lt (g := gb338) (o := .cells #[.bool true, .slice A0_1 l0_1.length c0_1] 27 (0, 0)) (by (with_reducible repeat (first | refine blk_drewN ?_ _ | refine blk_drew ?_ | refine blk_alloc ?_ _)); exact BK338.out)) : gb363 ≠ gb338))
           have n12_ := Aside0.mk ((by rw [hg]; exact Nat.ne_of_lt (blk_lt (g := gb343) (o := .cells #[.bool t339, .slice Ao10 t340.length co10] 27 (0, 0)) (by (with_reducible repeat (first | refine blk_drewN ?_ _ | refine blk_drew ?_ | refine blk_alloc ?_ _)); exact BK343.out)) : gb343 ≠ gb363))
           have n13_ := Aside0.mk ((by rw [hg]; exact Nat.ne_of_gt (blk_lt (g := gb343) (o := .cells #[.bool t339, .slice Ao10 t340.length co10] 27 (0, 0)) (by (with_reducible repeat (first | refine blk_drewN ?_ _ | refine blk_drew ?_ | refine blk_alloc ?_ _)); exact BK343.out)) : gb363 ≠ gb343))
           clear HO_344001 HO353 HO357 HO361 BK338 BK343 HB
           have HO_344001 := n0_
           have HO353 := n1_
           have HO357 := n2_
           have HO361 := n3_
           have BK338 := n4_
           have BK343 := n5_
           have HB := n6_
           have BK363 := n7_
           have GW363 := n8_
           have GE363 := n9_
           have NB338_363 := n10_
           have NB363_338 := n11_
           have NB343_363 := n12_
           have NB363_343 := n13_
           clear n0_ n1_ n2_ n3_ n4_ n5_ n6_ n7_ n8_ n9_ n10_ n11_ n12_ n13_ hb hbox hg
           refine hK.out _ _ ⟨(blk_cell BK338.out 0).trans rfl, (blk_cell BK338.out 1).trans rfl⟩ (fun hHeld => ?_)
           clear hK K
           refine norm_ (a' := ?_) ?_ ?_
           rotate_left
           ·show Act.put _ (some 9) _ = _
            simp only [Act.put, List.setIfInBounds_toArray, List.set_cons_zero, List.set_cons_succ, i64_w, i32_w]
            rfl
           exact norm_ (by first | (simp only [putAll, Act.put, List.setIfInBounds_toArray, List.set_cons_zero, List.set_cons_succ]; done) | (simp only [putAll, Act.put, List.setIfInBounds_toArray, List.set_cons_zero, List.set_cons_succ]; rfl)) (hJ3_4_9 (v352, v356, v360, gb363) _ ⟨hHeld, (by (with_reducible repeat (first | apply Kd.V_alloc | apply Kd.V_drewN | apply Kd.V_drew)); exact Kd.V_mono HO353.out (fun _ hk => ⟨hk.1.1, ⟨hk.1.2, hk.2⟩⟩)), (by (with_reducible repeat (first | apply Kd.V_alloc | apply Kd.V_drewN | apply Kd.V_drew)); exact Kd.V_mono HO357.out (fun _ hk => ⟨hk.1.1, ⟨hk.1.2, hk.2⟩⟩)), (by (with_reducible repeat (first | apply Kd.V_alloc | apply Kd.V_drewN | apply Kd.V_drew)); exact Kd.V_mono HO361.out (fun _ hk => ⟨hk.1.1, ⟨hk.1.2, hk.2⟩⟩)), (by (with_reducible repeat (first | apply Kd.V_alloc | apply Kd.V_drewN | apply Kd.V_drew)); exact Kd.V_mono HO_344001.out (fun _ hk => ⟨hk.1.1, ⟨hk.1.2, hk.2⟩⟩)), (by (with_reducible repeat (first | refine blk_drewN ?_ _ | refine blk_drew ?_ | refine blk_alloc ?_ _)); exact BK338.out), (by (with_reducible repeat (first | refine blk_drewN ?_ _ | refine blk_drew ?_ | refine blk_alloc ?_ _)); exact BK343.out), (by (with_reducible repeat (first | refine blk_drewN ?_ _ | refine blk_drew ?_ | refine blk_alloc ?_ _)); exact BK363.out), GW363.out, GE363.out, NB338_363.out, NB363_338.out, NB343_363.out, NB363_343.out, (by repeat (first | (with_reducible first | exact HB.out | apply below_alloc | apply pw_below_drewN | apply below_drew1 | refine below_set ?_ GE338.out | refine below_set ?_ GE343.out | refine below_set ?_ GE363.out) | exact HB.out))⟩)
        ·skip
         rintro ⟨v352, gb362, gb363⟩ w37 ⟨hS_, h0_, h1_, h2_, h3_, h4_, h5_, h6_, h7_, h8_, h9_, h10_, h11_, h12_, h13_, h14_, h15_, h16_, h17_, h18_, h19_, h20_⟩
         have n0_ : Aside0 (Kd.V (Kd.int .u32) 22 w37 w.heap.size (fun k_ => k_ ≠ gb338 ∧ k_ ≠ gb343 ∧ k_ ≠ gb362 ∧ k_ ≠ gb363) v352 t351) := ⟨h0_⟩
         have n1_ : Aside0 (Kd.V (Kd.int .u32) 22 w37 w.heap.size (fun k_ => k_ ≠ gb338 ∧ k_ ≠ gb343 ∧ k_ ≠ gb362 ∧ k_ ≠ gb363) (.slice Ao10 t340.length co10) t340) := ⟨h1_⟩
         have n2_ : Aside0 (w37.heap[gb338]? = some (.cells #[.bool true, .slice A0_1 l0_1.length c0_1] 27 (0, 0))) := ⟨h2_⟩
         have n3_ : Aside0 (w37.heap[gb343]? = some (.cells #[.bool t339, .slice Ao10 t340.length co10] 27 (0, 0))) := ⟨h3_⟩
         have n4_ : Aside0 (w37.heap[gb362]? = some (.cells #[.bool false, .slice none 0 0] 27 (0, 0))) := ⟨h4_⟩
         have n5_ : Aside0 (w37.heap[gb363]? = some (.cells #[.bool false, .slice none 0 0] 27 (0, 0))) := ⟨h5_⟩
         have n6_ : Aside0 (w.heap.size ≤ gb362) := ⟨h6_⟩
         have n7_ : Aside0 (w.heap.size ≤ gb362) := ⟨h7_⟩
         have n8_ : Aside0 (gb338 ≠ gb362) := ⟨h8_⟩
         have n9_ : Aside0 (gb362 ≠ gb338) := ⟨h9_⟩
         have n10_ : Aside0 (gb343 ≠ gb362) := ⟨h10_⟩
         have n11_ : Aside0 (gb362 ≠ gb343) := ⟨h11_⟩
         have n12_ : Aside0 (gb363 ≠ gb362) := ⟨h12_⟩
         have n13_ : Aside0 (gb362 ≠ gb363) := ⟨h13_⟩
         have n14_ : Aside0 (w.heap.size ≤ gb363) := ⟨h14_⟩
         have n15_ : Aside0 (w.heap.size ≤ gb363) := ⟨h15_⟩
         have n16_ : Aside0 (gb338 ≠ gb363) := ⟨h16_⟩
         have n17_ : Aside0 (gb363 ≠ gb338) := ⟨h17_⟩
         have n18_ : Aside0 (gb343 ≠ gb363) := ⟨h18_⟩
         have n19_ : Aside0 (gb363 ≠ gb343) := ⟨h19_⟩
         have n20_ : Aside0 (Below w.heap.size w w37) := ⟨h20_⟩
         clear HO_344001 BK338 BK343 HB h0_ h1_ h2_ h3_ h4_ h5_ h6_ h7_ h8_ h9_ h10_ h11_ h12_ h13_ h14_ h15_ h16_ h17_ h18_ h19_ h20_
         have HO353 := n0_
         have HO_344001 := n1_
         have BK338 := n2_
         have BK343 := n3_
         have BK362 := n4_
         have BK363 := n5_
         have GW362 := n6_
         have GE362 := n7_
         have NB338_362 := n8_
         have NB362_338 := n9_
         have NB343_362 := n10_
         have NB362_343 := n11_
         have NB363_362 := n12_
         have NB362_363 := n13_
         have GW363 := n14_
         have GE363 := n15_
         have NB338_363 := n16_
         have NB363_338 := n17_
         have NB343_363 := n18_
         have NB363_343 := n19_
         have HB := n20_
         clear n0_ n1_ n2_ n3_ n4_ n5_ n6_ n7_ n8_ n9_ n10_ n11_ n12_ n13_ n14_ n15_ n16_ n17_ n18_ n19_ n20_
         have hHeld : w37.cell? ⟨gb338, 0, none⟩ = some (.bool true) ∧ w37.cell? ⟨gb338, 1, none⟩ = some (.slice A0_1 l0_1.length c0_1) := hS_
         obtain ⟨Ao38, co38, eo38⟩ := Kd.V_slice HO353.out
         (first | subst eo38 | (injection eo38 with f1_ f2_ f3_; have f4_ := f1_.symm; have f5_ := f3_.symm; clear f1_ f2_ f3_; subst f4_; subst f5_))
         refine norm_ (a' := ?_) ?_ ?_
         rotate_left
         ·simp only [putAll, Act.put, List.setIfInBounds_toArray, List.set_cons_zero, List.set_cons_succ]
          rfl
         refine one_ (i := 4) (N := some 35) #[true, true, true, true, true, false, false, false, true, true, false, false] rfl rfl (one_of HT_.out (by kernel_rfl)) (by decide) (fun K hK => ?_)
         refine goes_ Tryz.func26 (by kernel_rfl) rfl #[.agg #[.bool true, .slice A0_1 l0_1.length c0_1], .agg #[.bool t350, .slice Ao38 t351.length co38]] (by rfl) rfl rfl (by (try simp only [List.map_toArray, List.map_cons, List.map_nil]); first | done | rfl | (simp only [List.length_drop, List.length_take]; rfl)) ?_
         with_reducible refine (spec_WideDiv.calls kj3 true _ _ l0_1 t350 _ _ t351 t354 t355 t358 t359 _ ?side1 ?side2 ?side3 ?side4 A26.out).mono ?_
         (case side1 => repeat (first | exact (Kd.C_below HR0_1.out HB.out) | (with_reducible refine Kd.C_alloc ?_ _) | (with_reducible refine Kd.C_drewN ?_ _) | (with_reducible refine Kd.C_drew ?_)))
         (case side2 => exact HC0_1.out)
         (case side3 => repeat (first | exact (Kd.V_reads' HO353.out).2.2 | (with_reducible refine Kd.C_alloc ?_ _) | (with_reducible refine Kd.C_drewN ?_ _) | (with_reducible refine Kd.C_drew ?_)))
         (case side4 => exact (Kd.V_reads' HO353.out).2.1)
         rintro e w39 ⟨v356, v360, rfl, ho0, ho1, hb⟩
         refine ⟨_, rfl, ?_⟩
         have n0_ := Aside0.mk (Kd.V_below (by (with_reducible repeat (first | apply Kd.V_alloc | apply Kd.V_drewN | apply Kd.V_drew)); exact HO_344001.out) hb)
         have n1_ := Aside0.mk (Kd.V_below (by (with_reducible repeat (first | apply Kd.V_alloc | apply Kd.V_drewN | apply Kd.V_drew)); exact HO353.out) hb)
         have n2_ := Aside0.mk (Kd.V_lower (Kd.V_mono (ok' := fun k_ => k_ ≠ gb338 ∧ k_ ≠ gb343 ∧ k_ ≠ gb362 ∧ k_ ≠ gb363) ho0 (fun k_ hk_ => ⟨(Kd.freshB (g := gb338) (o := .cells #[.bool true, .slice A0_1 l0_1.length c0_1] 27 (0, 0)) (by (with_reducible repeat (first | refine blk_drewN ?_ _ | refine blk_drew ?_ | refine blk_alloc ?_ _)); exact BK338.out) k_ hk_), (Kd.freshB (g := gb343) (o := .cells #[.bool t339, .slice Ao10 t340.length co10] 27 (0, 0)) (by (with_reducible repeat (first | refine blk_drewN ?_ _ | refine blk_drew ?_ | refine blk_alloc ?_ _)); exact BK343.out) k_ hk_), (Kd.freshB (g := gb362) (o := .cells #[.bool false, .slice none 0 0] 27 (0, 0)) (by (with_reducible repeat (first | refine blk_drewN ?_ _ | refine blk_drew ?_ | refine blk_alloc ?_ _)); exact BK362.out) k_ hk_), (Kd.freshB (g := gb363) (o := .cells #[.bool false, .slice none 0 0] 27 (0, 0)) (by (with_reducible repeat (first | refine blk_drewN ?_ _ | refine blk_drew ?_ | refine blk_alloc ?_ _)); exact BK363.out) k_ hk_)⟩)) (below_size (by repeat (first | (with_reducible first | exact HB.out | apply below_alloc | apply pw_below_drewN | apply below_drew1 | refine below_set ?_ GE338.out | refine below_set ?_ GE343.out | refine below_set ?_ GE362.out | refine below_set ?_ GE363.out) | exact HB.out))))
         have n3_ := Aside0.mk (Kd.V_lower (Kd.V_mono (ok' := fun k_ => k_ ≠ gb338 ∧ k_ ≠ gb343 ∧ k_ ≠ gb362 ∧ k_ ≠ gb363) ho1 (fun k_ hk_ => ⟨(Kd.freshB (g := gb338) (o := .cells #[.bool true, .slice A0_1 l0_1.length c0_1] 27 (0, 0)) (by (with_reducible repeat (first | refine blk_drewN ?_ _ | refine blk_drew ?_ | refine blk_alloc ?_ _)); exact BK338.out) k_ hk_), (Kd.freshB (g := gb343) (o := .cells #[.bool t339, .slice Ao10 t340.length co10] 27 (0, 0)) (by (with_reducible repeat (first | refine blk_drewN ?_ _ | refine blk_drew ?_ | refine blk_alloc ?_ _)); exact BK343.out) k_ hk_), (Kd.freshB (g := gb362) (o := .cells #[.bool false, .slice none 0 0] 27 (0, 0)) (by (with_reducible repeat (first | refine blk_drewN ?_ _ | refine blk_drew ?_ | refine blk_alloc ?_ _)); exact BK362.out) k_ hk_), (Kd.freshB (g := gb363) (o := .cells #[.bool false, .slice none 0 0] 27 (0, 0)) (by (with_reducible repeat (first | refine blk_drewN ?_ _ | refine blk_drew ?_ | refine blk_alloc ?_ _)); exact BK363.out) k_ hk_)⟩)) (below_size (by repeat (first | (with_reducible first | exact HB.out | apply below_alloc | apply pw_below_drewN | apply below_drew1 | refine below_set ?_ GE338.out | refine below_set ?_ GE343.out | refine below_set ?_ GE362.out | refine below_set ?_ GE363.out) | exact HB.out))))
         have n4_ := Aside0.mk (blk_below (g := gb338) (o := .cells #[.bool true, .slice A0_1 l0_1.length c0_1] 27 (0, 0)) (by (with_reducible repeat (first | refine blk_drewN ?_ _ | refine blk_drew ?_ | refine blk_alloc ?_ _)); exact BK338.out) hb)
         have n5_ := Aside0.mk (blk_below (g := gb343) (o := .cells #[.bool t339, .slice Ao10 t340.length co10] 27 (0, 0)) (by (with_reducible repeat (first | refine blk_drewN ?_ _ | refine blk_drew ?_ | refine blk_alloc ?_ _)); exact BK343.out) hb)
         have n6_ := Aside0.mk (blk_below (g := gb362) (o := .cells #[.bool false, .slice none 0 0] 27 (0, 0)) (by (with_reducible repeat (first | refine blk_drewN ?_ _ | refine blk_drew ?_ | refine blk_alloc ?_ _)); exact BK362.out) hb)
         have n7_ := Aside0.mk (blk_below (g := gb363) (o := .cells #[.bool false, .slice none 0 0] 27 (0, 0)) (by (with_reducible repeat (first | refine blk_drewN ?_ _ | refine blk_drew ?_ | refine blk_alloc ?_ _)); exact BK363.out) hb)
         have n8_ := Aside0.mk (below_step (by repeat (first | (with_reducible first | exact HB.out | apply below_alloc | apply pw_below_drewN | apply below_drew1 | refine below_set ?_ GE338.out | refine below_set ?_ GE343.out | refine below_set ?_ GE362.out | refine below_set ?_ GE363.out) | exact HB.out)) hb)
         clear HO_344001 HO353 BK338 BK343 BK362 BK363 HB
         have HO_344001 := n0_
         have HO353 := n1_
         have HO357 := n2_
         have HO361 := n3_
         have BK338 := n4_
         have BK343 := n5_
         have BK362 := n6_
         have BK363 := n7_
         have HB := n8_
         clear n0_ n1_ n2_ n3_ n4_ n5_ n6_ n7_ n8_
         (try clear hb)
         (try clear hb2)
         (try clear hk)
         (try clear hi)
         (try clear ho0)
         (try clear ho1)
         refine hK.out _ _ ⟨(blk_cell BK338.out 0).trans rfl, (blk_cell BK338.out 1).trans rfl⟩ (fun hHeld => ?_)
         clear hK K
         refine norm_ (a' := ?_) ?_ ?_
         rotate_left
         ·show Act.put _ (some 35) _ = _
          simp only [Act.put, List.setIfInBounds_toArray, List.set_cons_zero, List.set_cons_succ, i64_w, i32_w]
          rfl
         refine pure_ (i := 5) (N := some 30) (v := ?_) (a' := ?_) #[true, true, true, true, true, true, false, false, true, true, false, false] rfl rfl (any_of HT_.out (by kernel_rfl)) (fun _ _ _ h => h) (Or.inl ⟨by rfl, ?_⟩) ?_ ?_
         rotate_left
         ·intro w'
          go_simp
          with_reducible rfl
         rotate_left
         ·simp only [Act.put, List.setIfInBounds_toArray, List.set_cons_zero, List.set_cons_succ, i64_w, i32_w]
          rfl
         refine pure_ (i := 6) (N := some 36) (v := ?_) (a' := ?_) #[true, true, true, true, true, true, true, false, true, true, false, false] rfl rfl (any_of HT_.out (by kernel_rfl)) (fun _ _ _ h => h) (Or.inl ⟨by rfl, ?_⟩) ?_ ?_
         rotate_left
         ·intro w'
          go_simp
          with_reducible rfl
         rotate_left
         ·simp only [Act.put, List.setIfInBounds_toArray, List.set_cons_zero, List.set_cons_succ, i64_w, i32_w]
          rfl
         refine pure_ (i := 7) (N := some 37) (v := ?_) (a' := ?_) #[true, true, true, true, true, true, true, true, true, true, false, false] rfl rfl (any_of HT_.out (by kernel_rfl)) (fun _ _ _ h => h) (Or.inl ⟨by rfl, ?_⟩) ?_ ?_
         rotate_left
         ·intro w'
          go_simp
          with_reducible rfl
         rotate_left
         ·simp only [Act.put, List.setIfInBounds_toArray, List.set_cons_zero, List.set_cons_succ, i64_w, i32_w]
          rfl
         exact norm_ (by first | (simp only [putAll, Act.put, List.setIfInBounds_toArray, List.set_cons_zero, List.set_cons_succ]; done) | (simp only [putAll, Act.put, List.setIfInBounds_toArray, List.set_cons_zero, List.set_cons_succ]; rfl)) (hJ3_4_8_9 (.slice Ao38 t351.length co38, v356, v360, gb362, gb363) _ ⟨hHeld, (by (with_reducible repeat (first | apply Kd.V_alloc | apply Kd.V_drewN | apply Kd.V_drew)); exact HO353.out), (by (with_reducible repeat (first | apply Kd.V_alloc | apply Kd.V_drewN | apply Kd.V_drew)); exact HO357.out), (by (with_reducible repeat (first | apply Kd.V_alloc | apply Kd.V_drewN | apply Kd.V_drew)); exact HO361.out), (by (with_reducible repeat (first | apply Kd.V_alloc | apply Kd.V_drewN | apply Kd.V_drew)); exact HO_344001.out), (by (with_reducible repeat (first | refine blk_drewN ?_ _ | refine blk_drew ?_ | refine blk_alloc ?_ _)); exact BK338.out), (by (with_reducible repeat (first | refine blk_drewN ?_ _ | refine blk_drew ?_ | refine blk_alloc ?_ _)); exact BK343.out), (by (with_reducible repeat (first | refine blk_drewN ?_ _ | refine blk_drew ?_ | refine blk_alloc ?_ _)); exact BK362.out), (by (with_reducible repeat (first | refine blk_drewN ?_ _ | refine blk_drew ?_ | refine blk_alloc ?_ _)); exact BK363.out), GW362.out, GE362.out, NB338_362.out, NB362_338.out, NB343_362.out, NB362_343.out, NB363_362.out, NB362_363.out, GW363.out, GE363.out, NB338_363.out, NB363_338.out, NB343_363.out, NB363_343.out, (by repeat (first | (with_reducible first | exact HB.out | apply below_alloc | apply pw_below_drewN | apply below_drew1 | refine below_set ?_ GE338.out | refine below_set ?_ GE343.out | refine below_set ?_ GE362.out | refine below_set ?_ GE363.out) | exact HB.out))⟩)
       ·skip
        rintro ⟨v352, v356, v360, gb363⟩ w38 ⟨hS_, h0_, h1_, h2_, h3_, h4_, h5_, h6_, h7_, h8_, h9_, h10_, h11_, h12_, h13_⟩
        have n0_ : Aside0 (Kd.V (Kd.int .u32) 22 w38 w.heap.size (fun k_ => k_ ≠ gb338 ∧ k_ ≠ gb343 ∧ k_ ≠ gb363) v352 t351) := ⟨h0_⟩
        have n1_ : Aside0 (Kd.V (Kd.int .u32) 22 w38 w.heap.size (fun k_ => k_ ≠ gb338 ∧ k_ ≠ gb343 ∧ k_ ≠ gb363) v356 t355) := ⟨h1_⟩
        have n2_ : Aside0 (Kd.V (Kd.int .u32) 22 w38 w.heap.size (fun k_ => k_ ≠ gb338 ∧ k_ ≠ gb343 ∧ k_ ≠ gb363) v360 t359) := ⟨h2_⟩
        have n3_ : Aside0 (Kd.V (Kd.int .u32) 22 w38 w.heap.size (fun k_ => k_ ≠ gb338 ∧ k_ ≠ gb343 ∧ k_ ≠ gb363) (.slice Ao10 t340.length co10) t340) := ⟨h3_⟩
        have n4_ : Aside0 (w38.heap[gb338]? = some (.cells #[.bool true, .slice A0_1 l0_1.length c0_1] 27 (0, 0))) := ⟨h4_⟩
        have n5_ : Aside0 (w38.heap[gb343]? = some (.cells #[.bool t339, .slice Ao10 t340.length co10] 27 (0, 0))) := ⟨h5_⟩
        have n6_ : Aside0 (w38.heap[gb363]? = some (.cells #[.bool false, .slice none 0 0] 27 (0, 0))) := ⟨h6_⟩
        have n7_ : Aside0 (w.heap.size ≤ gb363) := ⟨h7_⟩
        have n8_ : Aside0 (w.heap.size ≤ gb363) := ⟨h8_⟩
        have n9_ : Aside0 (gb338 ≠ gb363) := ⟨h9_⟩
        have n10_ : Aside0 (gb363 ≠ gb338) := ⟨h10_⟩
        have n11_ : Aside0 (gb343 ≠ gb363) := ⟨h11_⟩
        have n12_ : Aside0 (gb363 ≠ gb343) := ⟨h12_⟩
        have n13_ : Aside0 (Below w.heap.size w w38) := ⟨h13_⟩
        clear HO_344001 BK338 BK343 HB h0_ h1_ h2_ h3_ h4_ h5_ h6_ h7_ h8_ h9_ h10_ h11_ h12_ h13_
        have HO353 := n0_
        have HO357 := n1_
        have HO361 := n2_
        have HO_344001 := n3_
        have BK338 := n4_
        have BK343 := n5_
        have BK363 := n6_
        have GW363 := n7_
        have GE363 := n8_
        have NB338_363 := n9_
        have NB363_338 := n10_
        have NB343_363 := n11_
        have NB363_343 := n12_
        have HB := n13_
        clear n0_ n1_ n2_ n3_ n4_ n5_ n6_ n7_ n8_ n9_ n10_ n11_ n12_ n13_
        have hHeld : w38.cell? ⟨gb338, 0, none⟩ = some (.bool true) ∧ w38.cell? ⟨gb338, 1, none⟩ = some (.slice A0_1 l0_1.length c0_1) := hS_
        refine norm_ (a' := ?_) ?_ ?_
        rotate_left
        ·simp only [putAll, Act.put, List.setIfInBounds_toArray, List.set_cons_zero, List.set_cons_succ]
         rfl
        refine one_ (i := 8) (N := some 8) #[true, true, true, true, true, true, true, true, true, true, false, false] rfl rfl (one_of HT_.out (by kernel_rfl)) (by decide) (fun K hK => ?_)
        refine box_step ?hg (N := 8) ?hd (cs := #[.bool false, .slice none 0 0]) (t := 27) ?hr ?_; (case hd => rfl); (case hg => rfl); (case hr => first | (go_simp; done) | (go_simp; rfl))
        intro gb362 hg w39 hbox hb
        have n0_ := Aside0.mk (Kd.V_below (Kd.V_elderB (by (with_reducible repeat (first | apply Kd.V_alloc | apply Kd.V_drewN | apply Kd.V_drew)); exact HO_344001.out) gb362 (Nat.le_of_eq hg.symm)) hb)
        have n1_ := Aside0.mk (Kd.V_below (Kd.V_elderB (by (with_reducible repeat (first | apply Kd.V_alloc | apply Kd.V_drewN | apply Kd.V_drew)); exact HO353.out) gb362 (Nat.le_of_eq hg.symm)) hb)
        have n2_ := Aside0.mk (Kd.V_below (Kd.V_elderB (by (with_reducible repeat (first | apply Kd.V_alloc | apply Kd.V_drewN | apply Kd.V_drew)); exact HO357.out) gb362 (Nat.le_of_eq hg.symm)) hb)
        have n3_ := Aside0.mk (Kd.V_below (Kd.V_elderB (by (with_reducible repeat (first | apply Kd.V_alloc | apply Kd.V_drewN | apply Kd.V_drew)); exact HO361.out) gb362 (Nat.le_of_eq hg.symm)) hb)
        have n4_ := Aside0.mk (blk_below (g := gb338) (o := .cells #[.bool true, .slice A0_1 l0_1.length c0_1] 27 (0, 0)) (by (with_reducible repeat (first | refine blk_drewN ?_ _ | refine blk_drew ?_ | refine blk_alloc ?_ _)); exact BK338.out) hb)
        have n5_ := Aside0.mk (blk_below (g := gb343) (o := .cells #[.bool t339, .slice Ao10 t340.length co10] 27 (0, 0)) (by (with_reducible repeat (first | refine blk_drewN ?_ _ | refine blk_drew ?_ | refine blk_alloc ?_ _)); exact BK343.out) hb)
        have n6_ := Aside0.mk (blk_below (g := gb363) (o := .cells #[.bool false, .slice none 0 0] 27 (0, 0)) (by (with_reducible repeat (first | refine blk_drewN ?_ _ | refine blk_drew ?_ | refine blk_alloc ?_ _)); exact BK363.out) hb)
        have n7_ := Aside0.mk (below_step (by repeat (first | (with_reducible first | exact HB.out | apply below_alloc | apply pw_below_drewN | apply below_drew1 | refine below_set ?_ GE338.out | refine below_set ?_ GE343.out | refine below_set ?_ GE363.out) | exact HB.out)) hb)
        have n8_ := Aside0.mk (hbox)
        have n9_ := Aside0.mk ((by rw [hg]; exact (below_size (by repeat (first | (with_reducible first | exact HB.out | apply below_alloc | apply pw_below_drewN | apply below_drew1 | refine below_set ?_ GE338.out | refine below_set ?_ GE343.out | refine below_set ?_ GE363.out) | exact HB.out))) : w.heap.size ≤ gb362))
        have n10_ := Aside0.mk ((by rw [hg]; exact (below_size (by repeat (first | (with_reducible first | exact HB.out | apply below_alloc | apply pw_below_drewN | apply below_drew1 | refine below_set ?_ GE338.out | refine below_set ?_ GE343.out | refine below_set ?_ GE363.out) | exact HB.out))) : w.heap.size ≤ gb362))
        have n11_ := Aside0.mk ((by rw [hg]; exact Nat.ne_of_lt (blk_lt (g := gb338) (o := .cells #[.bool true, .slice A0_1 l0_1.length c0_1] 27 (0, 0)) (by (with_reducible repeat (first | refine blk_drewN ?_ _ | refine blk_drew ?_ | refine blk_alloc ?_ _)); exact BK338.out)) : gb338 ≠ gb362))
        have n12_ := Aside0.mk ((by rw [hg]; exact Nat.ne_of_gt (blk_lt (g := gb338) (o := .cells #[.bool true, .slice A0_1 l0_1.length c0_1] 27 (0, 0)) (by (with_reducible repeat (first | refine blk_drewN ?_ _ | refine blk_drew ?_ | refine blk_alloc ?_ _)); exact BK338.out)) : gb362 ≠ gb338))
        have n13_ := Aside0.mk ((by rw [hg]; exact Nat.ne_of_lt (blk_lt (g := gb343) (o := .cells #[.bool t339, .slice Ao10 t340.length co10] 27 (0, 0)) (by (with_reducible repeat (first | refine blk_drewN ?_ _ | refine blk_drew ?_ | refine blk_alloc ?_ _)); exact BK343.out)) : gb343 ≠ gb362))
        have n14_ := Aside0.mk ((by rw [hg]; exact Nat.ne_of_gt (blk_lt (g := gb343) (o := .cells #[.bool t339, .slice Ao10 t340.length co10] 27 (0, 0)) (by (with_reducible repeat (first | refine blk_drewN ?_ _ | refine blk_drew ?_ | refine blk_alloc ?_ _)); exact BK343.out)) : gb362 ≠ gb343))
        have n15_ := Aside0.mk ((by rw [hg]; exact Nat.ne_of_lt (blk_lt (g := gb363) (o := .cells #[.bool false, .slice none 0 0] 27 (0, 0)) (by (with_reducible repeat (first | refine blk_drewN ?_ _ | refine blk_drew ?_ | refine blk_alloc ?_ _)); exact BK363.out)) : gb363 ≠ gb362))
        have n16_ := Aside0.mk ((by rw [hg]; exact Nat.ne_of_gt (blk_lt (g := gb363) (o := .cells #[.bool false, .slice none 0 0] 27 (0, 0)) (by (with_reducible repeat (first | refine blk_drewN ?_ _ | refine blk_drew ?_ | refine blk_alloc ?_ _)); exact BK363.out)) : gb362 ≠ gb363))
        clear HO_344001 HO353 HO357 HO361 BK338 BK343 BK363 HB
        have HO_344001 := n0_
        have HO353 := n1_
        have HO357 := n2_
        have HO361 := n3_
        have BK338 := n4_
        have BK343 := n5_
        have BK363 := n6_
        have HB := n7_
        have BK362 := n8_
        have GW362 := n9_
        have GE362 := n10_
        have NB338_362 := n11_
        have NB362_338 := n12_
        have NB343_362 := n13_
        have NB362_343 := n14_
        have NB363_362 := n15_
        have NB362_363 := n16_
        clear n0_ n1_ n2_ n3_ n4_ n5_ n6_ n7_ n8_ n9_ n10_ n11_ n12_ n13_ n14_ n15_ n16_ hb hbox hg
        refine hK.out _ _ ⟨(blk_cell BK338.out 0).trans rfl, (blk_cell BK338.out 1).trans rfl⟩ (fun hHeld => ?_)
        clear hK K
        refine norm_ (a' := ?_) ?_ ?_
        rotate_left
        ·show Act.put _ (some 8) _ = _
         simp only [Act.put, List.setIfInBounds_toArray, List.set_cons_zero, List.set_cons_succ, i64_w, i32_w]
         rfl
        exact norm_ (by first | (simp only [putAll, Act.put, List.setIfInBounds_toArray, List.set_cons_zero, List.set_cons_succ]; done) | (simp only [putAll, Act.put, List.setIfInBounds_toArray, List.set_cons_zero, List.set_cons_succ]; rfl)) (hJ3_4_8_9 (v352, v356, v360, gb362, gb363) _ ⟨hHeld, (by (with_reducible repeat (first | apply Kd.V_alloc | apply Kd.V_drewN | apply Kd.V_drew)); exact Kd.V_mono HO353.out (fun _ hk => ⟨hk.1.1, ⟨hk.1.2.1, ⟨hk.2, hk.1.2.2⟩⟩⟩)), (by (with_reducible repeat (first | apply Kd.V_alloc | apply Kd.V_drewN | apply Kd.V_drew)); exact Kd.V_mono HO357.out (fun _ hk => ⟨hk.1.1, ⟨hk.1.2.1, ⟨hk.2, hk.1.2.2⟩⟩⟩)), (by (with_reducible repeat (first | apply Kd.V_alloc | apply Kd.V_drewN | apply Kd.V_drew)); exact Kd.V_mono HO361.out (fun _ hk => ⟨hk.1.1, ⟨hk.1.2.1, ⟨hk.2, hk.1.2.2⟩⟩⟩)), (by (with_reducible repeat (first | apply Kd.V_alloc | apply Kd.V_drewN | apply Kd.V_drew)); exact Kd.V_mono HO_344001.out (fun _ hk => ⟨hk.1.1, ⟨hk.1.2.1, ⟨hk.2, hk.1.2.2⟩⟩⟩)), (by (with_reducible repeat (first | refine blk_drewN ?_ _ | refine blk_drew ?_ | refine blk_alloc ?_ _)); exact BK338.out), (by (with_reducible repeat (first | refine blk_drewN ?_ _ | refine blk_drew ?_ | refine blk_alloc ?_ _)); exact BK343.out), (by (with_reducible repeat (first | refine blk_drewN ?_ _ | refine blk_drew ?_ | refine blk_alloc ?_ _)); exact BK362.out), (by (with_reducible repeat (first | refine blk_drewN ?_ _ | refine blk_drew ?_ | refine blk_alloc ?_ _)); exact BK363.out), GW362.out, GE362.out, NB338_362.out, NB362_338.out, NB343_362.out, NB362_343.out, NB363_362.out, NB362_363.out, GW363.out, GE363.out, NB338_363.out, NB363_338.out, NB343_363.out, NB363_343.out, (by repeat (first | (with_reducible first | exact HB.out | apply below_alloc | apply pw_below_drewN | apply below_drew1 | refine below_set ?_ GE338.out | refine below_set ?_ GE343.out | refine below_set ?_ GE363.out | refine below_set ?_ GE362.out) | exact HB.out))⟩)
      ·skip
       rintro ⟨v352, v356, v360, gb362⟩ w38 ⟨hS_, h0_, h1_, h2_, h3_, h4_, h5_, h6_, h7_, h8_, h9_, h10_, h11_, h12_, h13_⟩
       have n0_ : Aside0 (Kd.V (Kd.int .u32) 22 w38 w.heap.size (fun k_ => k_ ≠ gb338 ∧ k_ ≠ gb343 ∧ k_ ≠ gb362) v352 t351) := ⟨h0_⟩
       have n1_ : Aside0 (Kd.V (Kd.int .u32) 22 w38 w.heap.size (fun k_ => k_ ≠ gb338 ∧ k_ ≠ gb343 ∧ k_ ≠ gb362) v356 t355) := ⟨h1_⟩
       have n2_ : Aside0 (Kd.V (Kd.int .u32) 22 w38 w.heap.size (fun k_ => k_ ≠ gb338 ∧ k_ ≠ gb343 ∧ k_ ≠ gb362) v360 t359) := ⟨h2_⟩
       have n3_ : Aside0 (Kd.V (Kd.int .u32) 22 w38 w.heap.size (fun k_ => k_ ≠ gb338 ∧ k_ ≠ gb343 ∧ k_ ≠ gb362) (.slice Ao10 t340.length co10) t340) := ⟨h3_⟩
       have n4_ : Aside0 (w38.heap[gb338]? = some (.cells #[.bool true, .slice A0_1 l0_1.length c0_1] 27 (0, 0))) := ⟨h4_⟩
       have n5_ : Aside0 (w38.heap[gb343]? = some (.cells #[.bool t339, .slice Ao10 t340.length co10] 27 (0, 0))) := ⟨h5_⟩
       have n6_ : Aside0 (w38.heap[gb362]? = some (.cells #[.bool false, .slice none 0 0] 27 (0, 0))) := ⟨h6_⟩
       have n7_ : Aside0 (w.heap.size ≤ gb362) := ⟨h7_⟩
       have n8_ : Aside0 (w.heap.size ≤ gb362) := ⟨h8_⟩
       have n9_ : Aside0 (gb338 ≠ gb362) := ⟨h9_⟩
       have n10_ : Aside0 (gb362 ≠ gb338) := ⟨h10_⟩
       have n11_ : Aside0 (gb343 ≠ gb362) := ⟨h11_⟩
       have n12_ : Aside0 (gb362 ≠ gb343) := ⟨h12_⟩
       have n13_ : Aside0 (Below w.heap.size w w38) := ⟨h13_⟩
       clear HO_344001 BK338 BK343 HB h0_ h1_ h2_ h3_ h4_ h5_ h6_ h7_ h8_ h9_ h10_ h11_ h12_ h13_
       have HO353 := n0_
       have HO357 := n1_
       have HO361 := n2_
       have HO_344001 := n3_
       have BK338 := n4_
       have BK343 := n5_
       have BK362 := n6_
       have GW362 := n7_
       have GE362 := n8_
       have NB338_362 := n9_
       have NB362_338 := n10_
       have NB343_362 := n11_
       have NB362_343 := n12_
       have HB := n13_
       clear n0_ n1_ n2_ n3_ n4_ n5_ n6_ n7_ n8_ n9_ n10_ n11_ n12_ n13_
       have hHeld : w38.cell? ⟨gb338, 0, none⟩ = some (.bool true) ∧ w38.cell? ⟨gb338, 1, none⟩ = some (.slice A0_1 l0_1.length c0_1) := hS_
       refine norm_ (a' := ?_) ?_ ?_
       rotate_left
       ·simp only [putAll, Act.put, List.setIfInBounds_toArray, List.set_cons_zero, List.set_cons_succ]
        rfl
       refine one_ (i := 9) (N := some 9) #[true, true, true, true, true, true, true, true, true, true, false, false] rfl rfl (one_of HT_.out (by kernel_rfl)) (by decide) (fun K hK => ?_)
       refine box_step ?hg (N := 9) ?hd (cs := #[.bool false, .slice none 0 0]) (t := 27) ?hr ?_; (case hd => rfl); (case hg => rfl); (case hr => first | (go_simp; done) | (go_simp; rfl))
       intro gb363 hg w39 hbox hb
       have n0_ := Aside0.mk (Kd.V_below (Kd.V_elderB (by (with_reducible repeat (first | apply Kd.V_alloc | apply Kd.V_drewN | apply Kd.V_drew)); exact HO_344001.out) gb363 (Nat.le_of_eq hg.symm)) hb)
       have n1_ := Aside0.mk (Kd.V_below (Kd.V_elderB (by (with_reducible repeat (first | apply Kd.V_alloc | apply Kd.V_drewN | apply Kd.V_drew)); exact HO353.out) gb363 (Nat.le_of_eq hg.symm)) hb)
       have n2_ := Aside0.mk (Kd.V_below (Kd.V_elderB (by (with_reducible repeat (first | apply Kd.V_alloc | apply Kd.V_drewN | apply Kd.V_drew)); exact HO357.out) gb363 (Nat.le_of_eq hg.symm)) hb)
       have n3_ := Aside0.mk (Kd.V_below (Kd.V_elderB (by (with_reducible repeat (first | apply Kd.V_alloc | apply Kd.V_drewN | apply Kd.V_drew)); exact HO361.out) gb363 (Nat.le_of_eq hg.symm)) hb)
       have n4_ := Aside0.mk (blk_below (g := gb338) (o := .cells #[.bool true, .slice A0_1 l0_1.length c0_1] 27 (0, 0)) (by (with_reducible repeat (first | refine blk_drewN ?_ _ | refine blk_drew ?_ | refine blk_alloc ?_ _)); exact BK338.out) hb)
       have n5_ := Aside0.mk (blk_below (g := gb343) (o := .cells #[.bool t339, .slice Ao10 t340.length co10] 27 (0, 0)) (by (with_reducible repeat (first | refine blk_drewN ?_ _ | refine blk_drew ?_ | refine blk_alloc ?_ _)); exact BK343.out) hb)
       have n6_ := Aside0.mk (blk_below (g := gb362) (o := .cells #[.bool false, .slice none 0 0] 27 (0, 0)) (by (with_reducible repeat (first | refine blk_drewN ?_ _ | refine blk_drew ?_ | refine blk_alloc ?_ _)); exact BK362.out) hb)
       have n7_ := Aside0.mk (below_step (by repeat (first | (with_reducible first | exact HB.out | apply below_alloc | apply pw_below_drewN | apply below_drew1 | refine below_set ?_ GE338.out | refine below_set ?_ GE343.out | refine below_set ?_ GE362.out) | exact HB.out)) hb)
       have n8_ := Aside0.mk (hbox)
       have n9_ := Aside0.mk ((by rw [hg]; exact (below_size (by repeat (first | (with_reducible first | exact HB.out | apply below_alloc | apply pw_below_drewN | apply below_drew1 | refine below_set ?_ GE338.out | refine below_set ?_ GE343.out | refine below_set ?_ GE362.out) | exact HB.out))) : w.heap.size ≤ gb363))
       have n10_ := Aside0.mk ((by rw [hg]; exact (below_size (by repeat (first | (with_reducible first | exact HB.out | apply below_alloc | apply pw_below_drewN | apply below_drew1 | refine below_set ?_ GE338.out | refine below_set ?_ GE343.out | refine below_set ?_ GE362.out) | exact HB.out))) : w.heap.size ≤ gb363))
       have n11_ := Aside0.mk ((by rw [hg]; exact Nat.ne_of_lt (blk_lt (g := gb338) (o := .cells #[.bool true, .slice A0_1 l0_1.length c0_1] 27 (0, 0)) (by (with_reducible repeat (first | refine blk_drewN ?_ _ | refine blk_drew ?_ | refine blk_alloc ?_ _)); exact BK338.out)) : gb338 ≠ gb363))
       have n12_ := Aside0.mk ((by rw [hg]; exact Nat.ne_of_gt (blk_lt (g := gb338) (o := .cells #[.bool true, .slice A0_1 l0_1.length c0_1] 27 (0, 0)) (by (with_reducible repeat (first | refine blk_drewN ?_ _ | refine blk_drew ?_ | refine blk_alloc ?_ _)); exact BK338.out)) : gb363 ≠ gb338))
       have n13_ := Aside0.mk ((by rw [hg]; exact Nat.ne_of_lt (blk_lt (g := gb343) (o := .cells #[.bool t339, .slice Ao10 t340.length co10] 27 (0, 0)) (by (with_reducible repeat (first | refine blk_drewN ?_ _ | refine blk_drew ?_ | refine blk_alloc ?_ _)); exact BK343.out)) : gb343 ≠ gb363))
       have n14_ := Aside0.mk ((by rw [hg]; exact Nat.ne_of_gt (blk_lt (g := gb343) (o := .cells #[.bool t339, .slice Ao10 t340.length co10] 27 (0, 0)) (by (with_reducible repeat (first | refine blk_drewN ?_ _ | refine blk_drew ?_ | refine blk_alloc ?_ _)); exact BK343.out)) : gb363 ≠ gb343))
       have n15_ := Aside0.mk ((by rw [hg]; exact Nat.ne_of_lt (blk_lt (g := gb362) (o := .cells #[.bool false, .slice none 0 0] 27 (0, 0)) (by (with_reducible repeat (first | refine blk_drewN ?_ _ | refine blk_drew ?_ | refine blk_alloc ?_ _)); exact BK362.out)) : gb362 ≠ gb363))
       have n16_ := Aside0.mk ((by rw [hg]; exact Nat.ne_of_gt (blk_lt (g := gb362) (o := .cells #[.bool false, .slice none 0 0] 27 (0, 0)) (by (with_reducible repeat (first | refine blk_drewN ?_ _ | refine blk_drew ?_ | refine blk_alloc ?_ _)); exact BK362.out)) : gb363 ≠ gb362))
       clear HO_344001 HO353 HO357 HO361 BK338 BK343 BK362 HB
       have HO_344001 := n0_
       have HO353 := n1_
       have HO357 := n2_
       have HO361 := n3_
       have BK338 := n4_
       have BK343 := n5_
       have BK362 := n6_
       have HB := n7_
       have BK363 := n8_
       have GW363 := n9_
       have GE363 := n10_
       have NB338_363 := n11_
       have NB363_338 := n12_
       have NB343_363 := n13_
       have NB363_343 := n14_
       have NB362_363 := n15_
       have NB363_362 := n16_
       clear n0_ n1_ n2_ n3_ n4_ n5_ n6_ n7_ n8_ n9_ n10_ n11_ n12_ n13_ n14_ n15_ n16_ hb hbox hg
       refine hK.out _ _ ⟨(blk_cell BK338.out 0).trans rfl, (blk_cell BK338.out 1).trans rfl⟩ (fun hHeld => ?_)
       clear hK K
       refine norm_ (a' := ?_) ?_ ?_
       rotate_left
       ·show Act.put _ (some 9) _ = _
        simp only [Act.put, List.setIfInBounds_toArray, List.set_cons_zero, List.set_cons_succ, i64_w, i32_w]
        rfl
       exact norm_ (by first | (simp only [putAll, Act.put, List.setIfInBounds_toArray, List.set_cons_zero, List.set_cons_succ]; done) | (simp only [putAll, Act.put, List.setIfInBounds_toArray, List.set_cons_zero, List.set_cons_succ]; rfl)) (hJ3_4_8_9 (v352, v356, v360, gb362, gb363) _ ⟨hHeld, (by (with_reducible repeat (first | apply Kd.V_alloc | apply Kd.V_drewN | apply Kd.V_drew)); exact Kd.V_mono HO353.out (fun _ hk => ⟨hk.1.1, ⟨hk.1.2.1, ⟨hk.1.2.2, hk.2⟩⟩⟩)), (by (with_reducible repeat (first | apply Kd.V_alloc | apply Kd.V_drewN | apply Kd.V_drew)); exact Kd.V_mono HO357.out (fun _ hk => ⟨hk.1.1, ⟨hk.1.2.1, ⟨hk.1.2.2, hk.2⟩⟩⟩)), (by (with_reducible repeat (first | apply Kd.V_alloc | apply Kd.V_drewN | apply Kd.V_drew)); exact Kd.V_mono HO361.out (fun _ hk => ⟨hk.1.1, ⟨hk.1.2.1, ⟨hk.1.2.2, hk.2⟩⟩⟩)), (by (with_reducible repeat (first | apply Kd.V_alloc | apply Kd.V_drewN | apply Kd.V_drew)); exact Kd.V_mono HO_344001.out (fun _ hk => ⟨hk.1.1, ⟨hk.1.2.1, ⟨hk.1.2.2, hk.2⟩⟩⟩)), (by (with_reducible repeat (first | refine blk_drewN ?_ _ | refine blk_drew ?_ | refine blk_alloc ?_ _)); exact BK338.out), (by (with_reducible repeat (first | refine blk_drewN ?_ _ | refine blk_drew ?_ | refine blk_alloc ?_ _)); exact BK343.out), (by (with_reducible repeat (first | refine blk_drewN ?_ _ | refine blk_drew ?_ | refine blk_alloc ?_ _)); exact BK362.out), (by (with_reducible repeat (first | refine blk_drewN ?_ _ | refine blk_drew ?_ | refine blk_alloc ?_ _)); exact BK363.out), GW362.out, GE362.out, NB338_362.out, NB362_338.out, NB343_362.out, NB362_343.out, NB363_362.out, NB362_363.out, GW363.out, GE363.out, NB338_363.out, NB363_338.out, NB343_363.out, NB363_343.out, (by repeat (first | (with_reducible first | exact HB.out | apply below_alloc | apply pw_below_drewN | apply below_drew1 | refine below_set ?_ GE338.out | refine below_set ?_ GE343.out | refine below_set ?_ GE362.out | refine below_set ?_ GE363.out) | exact HB.out))⟩)
     rintro ⟨v352, v356, v360, gb362, gb363⟩ w39 ⟨hS_, h0_, h1_, h2_, h3_, h4_, h5_, h6_, h7_, h8_, h9_, h10_, h11_, h12_, h13_, h14_, h15_, h16_, h17_, h18_, h19_, h20_, h21_, h22_⟩
     have n0_ : Aside0 (Kd.V (Kd.int .u32) 22 w39 w.heap.size (fun k_ => k_ ≠ gb338 ∧ k_ ≠ gb343 ∧ k_ ≠ gb362 ∧ k_ ≠ gb363) v352 t351) := ⟨h0_⟩
     have n1_ : Aside0 (Kd.V (Kd.int .u32) 22 w39 w.heap.size (fun k_ => k_ ≠ gb338 ∧ k_ ≠ gb343 ∧ k_ ≠ gb362 ∧ k_ ≠ gb363) v356 t355) := ⟨h1_⟩
     have n2_ : Aside0 (Kd.V (Kd.int .u32) 22 w39 w.heap.size (fun k_ => k_ ≠ gb338 ∧ k_ ≠ gb343 ∧ k_ ≠ gb362 ∧ k_ ≠ gb363) v360 t359) := ⟨h2_⟩
     have n3_ : Aside0 (Kd.V (Kd.int .u32) 22 w39 w.heap.size (fun k_ => k_ ≠ gb338 ∧ k_ ≠ gb343 ∧ k_ ≠ gb362 ∧ k_ ≠ gb363) (.slice Ao10 t340.length co10) t340) := ⟨h3_⟩
     have n4_ : Aside0 (w39.heap[gb338]? = some (.cells #[.bool true, .slice A0_1 l0_1.length c0_1] 27 (0, 0))) := ⟨h4_⟩
     have n5_ : Aside0 (w39.heap[gb343]? = some (.cells #[.bool t339, .slice Ao10 t340.length co10] 27 (0, 0))) := ⟨h5_⟩
     have n6_ : Aside0 (w39.heap[gb362]? = some (.cells #[.bool false, .slice none 0 0] 27 (0, 0))) := ⟨h6_⟩
     have n7_ : Aside0 (w39.heap[gb363]? = some (.cells #[.bool false, .slice none 0 0] 27 (0, 0))) := ⟨h7_⟩
     have n8_ : Aside0 (w.heap.size ≤ gb362) := ⟨h8_⟩
     have n9_ : Aside0 (w.heap.size ≤ gb362) := ⟨h9_⟩
     have n10_ : Aside0 (gb338 ≠ gb362) := ⟨h10_⟩
     have n11_ : Aside0 (gb362 ≠ gb338) := ⟨h11_⟩
     have n12_ : Aside0 (gb343 ≠ gb362) := ⟨h12_⟩
     have n13_ : Aside0 (gb362 ≠ gb343) := ⟨h13_⟩
     have n14_ : Aside0 (gb363 ≠ gb362) := ⟨h14_⟩
     have n15_ : Aside0 (gb362 ≠ gb363) := ⟨h15_⟩
     have n16_ : Aside0 (w.heap.size ≤ gb363) := ⟨h16_⟩
     have n17_ : Aside0 (w.heap.size ≤ gb363) := ⟨h17_⟩
     have n18_ : Aside0 (gb338 ≠ gb363) := ⟨h18_⟩
     have n19_ : Aside0 (gb363 ≠ gb338) := ⟨h19_⟩
     have n20_ : Aside0 (gb343 ≠ gb363) := ⟨h20_⟩
     have n21_ : Aside0 (gb363 ≠ gb343) := ⟨h21_⟩
     have n22_ : Aside0 (Below w.heap.size w w39) := ⟨h22_⟩
     clear HO_344001 BK338 BK343 HB h0_ h1_ h2_ h3_ h4_ h5_ h6_ h7_ h8_ h9_ h10_ h11_ h12_ h13_ h14_ h15_ h16_ h17_ h18_ h19_ h20_ h21_ h22_
     have HO353 := n0_
     have HO357 := n1_
     have HO361 := n2_
     have HO_344001 := n3_
     have BK338 := n4_
     have BK343 := n5_
     have BK362 := n6_
     have BK363 := n7_
     have GW362 := n8_
     have GE362 := n9_
     have NB338_362 := n10_
     have NB362_338 := n11_
     have NB343_362 := n12_
     have NB362_343 := n13_
     have NB363_362 := n14_
     have NB362_363 := n15_
     have GW363 := n16_
     have GE363 := n17_
     have NB338_363 := n18_
     have NB363_338 := n19_
     have NB343_363 := n20_
     have NB363_343 := n21_
     have HB := n22_
     clear n0_ n1_ n2_ n3_ n4_ n5_ n6_ n7_ n8_ n9_ n10_ n11_ n12_ n13_ n14_ n15_ n16_ n17_ n18_ n19_ n20_ n21_ n22_
     have hHeld : w39.cell? ⟨gb338, 0, none⟩ = some (.bool true) ∧ w39.cell? ⟨gb338, 1, none⟩ = some (.slice A0_1 l0_1.length c0_1) := hS_
     obtain ⟨Ao41, co41, eo41⟩ := Kd.V_slice HO357.out
     (first | subst eo41 | (injection eo41 with f1_ f2_ f3_; have f4_ := f1_.symm; have f5_ := f3_.symm; clear f1_ f2_ f3_; subst f4_; subst f5_))
     obtain ⟨Ao44, co44, eo44⟩ := Kd.V_slice HO361.out
     (first | subst eo44 | (injection eo44 with f1_ f2_ f3_; have f4_ := f1_.symm; have f5_ := f3_.symm; clear f1_ f2_ f3_; subst f4_; subst f5_))
     refine norm_ (a' := ?_) ?_ ?_
     rotate_left
     ·simp only [putAll, Act.put, List.setIfInBounds_toArray, List.set_cons_zero, List.set_cons_succ]
      rfl
     refine one_ (i := 10) (N := none) #[true, true, true, true, true, true, true, true, true, true, true, false] rfl rfl (one_of HT_.out (by kernel_rfl)) (by decide) (fun K hK => ?_)
     have hs40 : w39.cell? ⟨gb362, 0, none⟩ = some (.bool false) := (blk_cell BK362.out 0).trans rfl
     have hfs40 := blk_frozen BK362.out 0
     have hns40_0 := NB338_362.out
     have hns40_1 := NB343_362.out
     have hns40_3 := NB363_362.out
     have hms40_0 := NB362_338.out
     have hms40_1 := NB362_343.out
     have hms40_3 := NB362_363.out
     have hs42 : w39.cell? ⟨gb362, 1, none⟩ = some (.slice none 0 0) := (blk_cell BK362.out 1).trans rfl
     have hfs42 := blk_frozen BK362.out 1
     have hns42_0 := NB338_362.out
     have hns42_1 := NB343_362.out
     have hns42_3 := NB363_362.out
     have hms42_0 := NB362_338.out
     have hms42_1 := NB362_343.out
     have hms42_3 := NB362_363.out
     refine skip_ (w1 := ?_) (by rfl) rfl ?_ ?_
     rotate_left
     ·go_simp
      rfl
     refine hK.out _ _ ⟨((cell_far (p := ⟨gb362, _, none⟩) NB338_362.out _).trans (((cell_far (p := ⟨gb362, _, none⟩) NB338_362.out _).trans (hHeld.1)))), ((cell_far (p := ⟨gb362, _, none⟩) NB338_362.out _).trans (((cell_far (p := ⟨gb362, _, none⟩) NB338_362.out _).trans (hHeld.2))))⟩ (fun hHeld => ?_)
     clear hK K
     refine one_ (i := 11) (N := none) #[true, true, true, true, true, true, true, true, true, true, true, true] rfl rfl (one_of HT_.out (by kernel_rfl)) (by decide) (fun K hK => ?_)
     have hs43 : w39.cell? ⟨gb363, 0, none⟩ = some (.bool false) := (blk_cell BK363.out 0).trans rfl
     have hfs43 := blk_frozen BK363.out 0
     have hns43_0 := NB338_363.out
     have hns43_1 := NB343_363.out
     have hns43_2 := NB362_363.out
     have hms43_0 := NB363_338.out
     have hms43_1 := NB363_343.out
     have hms43_2 := NB363_362.out
     have hs45 : w39.cell? ⟨gb363, 1, none⟩ = some (.slice none 0 0) := (blk_cell BK363.out 1).trans rfl
     have hfs45 := blk_frozen BK363.out 1
     have hns45_0 := NB338_363.out
     have hns45_1 := NB343_363.out
     have hns45_2 := NB362_363.out
     have hms45_0 := NB363_338.out
     have hms45_1 := NB363_343.out
     have hms45_2 := NB363_362.out
     refine skip_ (w1 := ?_) (by rfl) rfl ?_ ?_
     rotate_left
     ·go_simp
      rfl
     refine hK.out _ _ ⟨((cell_far (p := ⟨gb363, _, none⟩) NB338_363.out _).trans (((cell_far (p := ⟨gb363, _, none⟩) NB338_363.out _).trans (hHeld.1)))), ((cell_far (p := ⟨gb363, _, none⟩) NB338_363.out _).trans (((cell_far (p := ⟨gb363, _, none⟩) NB338_363.out _).trans (hHeld.2))))⟩ (fun hHeld => ?_)
     clear hK K
     refine done_ (done_of HT_.out (by kernel_rfl)) ?_
     try go_wp2
     have n0_ : Aside0 (Kd.V (Kd.int .u32) 22 ((((w39.setCell ⟨gb362, 0, none⟩ (.bool t354)).setCell ⟨gb362, 1, none⟩ (.slice Ao41 t355.length co41)).setCell ⟨gb363, 0, none⟩ (.bool t358)).setCell ⟨gb363, 1, none⟩ (.slice Ao44 t359.length co44)) w.heap.size (fun k_ => k_ ≠ gb338 ∧ k_ ≠ gb343 ∧ k_ ≠ gb362 ∧ k_ ≠ gb363) (.slice Ao10 t340.length co10) t340) := ⟨by (with_reducible repeat (first | apply Kd.V_alloc | apply Kd.V_drewN | apply Kd.V_drew)); exact Kd.V_mono (Kd.V_far (p := ⟨gb363, 1, none⟩) (Kd.V_far (p := ⟨gb363, 0, none⟩) (Kd.V_far (p := ⟨gb362, 1, none⟩) (Kd.V_far (p := ⟨gb362, 0, none⟩) (Kd.V_mono (Kd.V_mono HO_344001.out (fun k_ hk => (⟨hk, hk.2.2.1⟩ : _ ∧ k_ ≠ gb362))) (fun k_ hk => (⟨hk, hk.1.2.2.2⟩ : _ ∧ k_ ≠ gb363))) (fun _ hk => hk.1.2) (.bool t354)) (fun _ hk => hk.1.2) (.slice Ao41 t355.length co41)) (fun _ hk => hk.2) (.bool t358)) (fun _ hk => hk.2) (.slice Ao44 t359.length co44)) (fun _ hk => ⟨hk.1.1.1, ⟨hk.1.1.2.1, ⟨hk.1.1.2.2.1, hk.1.1.2.2.2⟩⟩⟩)⟩
     have n1_ : Aside0 (Kd.V (Kd.int .u32) 22 ((((w39.setCell ⟨gb362, 0, none⟩ (.bool t354)).setCell ⟨gb362, 1, none⟩ (.slice Ao41 t355.length co41)).setCell ⟨gb363, 0, none⟩ (.bool t358)).setCell ⟨gb363, 1, none⟩ (.slice Ao44 t359.length co44)) w.heap.size (fun k_ => k_ ≠ gb338 ∧ k_ ≠ gb343 ∧ k_ ≠ gb362 ∧ k_ ≠ gb363) v352 t351) := ⟨by (with_reducible repeat (first | apply Kd.V_alloc | apply Kd.V_drewN | apply Kd.V_drew)); exact Kd.V_mono (Kd.V_far (p := ⟨gb363, 1, none⟩) (Kd.V_far (p := ⟨gb363, 0, none⟩) (Kd.V_far (p := ⟨gb362, 1, none⟩) (Kd.V_far (p := ⟨gb362, 0, none⟩) (Kd.V_mono (Kd.V_mono HO353.out (fun k_ hk => (⟨hk, hk.2.2.1⟩ : _ ∧ k_ ≠ gb362))) (fun k_ hk => (⟨hk, hk.1.2.2.2⟩ : _ ∧ k_ ≠ gb363))) (fun _ hk => hk.1.2) (.bool t354)) (fun _ hk => hk.1.2) (.slice Ao41 t355.length co41)) (fun _ hk => hk.2) (.bool t358)) (fun _ hk => hk.2) (.slice Ao44 t359.length co44)) (fun _ hk => ⟨hk.1.1.1, ⟨hk.1.1.2.1, ⟨hk.1.1.2.2.1, hk.1.1.2.2.2⟩⟩⟩)⟩
     have n2_ : Aside0 (Kd.V (Kd.int .u32) 22 ((((w39.setCell ⟨gb362, 0, none⟩ (.bool t354)).setCell ⟨gb362, 1, none⟩ (.slice Ao41 t355.length co41)).setCell ⟨gb363, 0, none⟩ (.bool t358)).setCell ⟨gb363, 1, none⟩ (.slice Ao44 t359.length co44)) w.heap.size (fun k_ => k_ ≠ gb338 ∧ k_ ≠ gb343 ∧ k_ ≠ gb362 ∧ k_ ≠ gb363) (.slice Ao41 t355.length co41) t355) := ⟨by (with_reducible repeat (first | apply Kd.V_alloc | apply Kd.V_drewN | apply Kd.V_drew)); exact Kd.V_mono (Kd.V_far (p := ⟨gb363, 1, none⟩) (Kd.V_far (p := ⟨gb363, 0, none⟩) (Kd.V_far (p := ⟨gb362, 1, none⟩) (Kd.V_far (p := ⟨gb362, 0, none⟩) (Kd.V_mono (Kd.V_mono HO357.out (fun k_ hk => (⟨hk, hk.2.2.1⟩ : _ ∧ k_ ≠ gb362))) (fun k_ hk => (⟨hk, hk.1.2.2.2⟩ : _ ∧ k_ ≠ gb363))) (fun _ hk => hk.1.2) (.bool t354)) (fun _ hk => hk.1.2) (.slice Ao41 t355.length co41)) (fun _ hk => hk.2) (.bool t358)) (fun _ hk => hk.2) (.slice Ao44 t359.length co44)) (fun _ hk => ⟨hk.1.1.1, ⟨hk.1.1.2.1, ⟨hk.1.1.2.2.1, hk.1.1.2.2.2⟩⟩⟩)⟩
     have n3_ : Aside0 (Kd.V (Kd.int .u32) 22 ((((w39.setCell ⟨gb362, 0, none⟩ (.bool t354)).setCell ⟨gb362, 1, none⟩ (.slice Ao41 t355.length co41)).setCell ⟨gb363, 0, none⟩ (.bool t358)).setCell ⟨gb363, 1, none⟩ (.slice Ao44 t359.length co44)) w.heap.size (fun k_ => k_ ≠ gb338 ∧ k_ ≠ gb343 ∧ k_ ≠ gb362 ∧ k_ ≠ gb363) (.slice Ao44 t359.length co44) t359) := ⟨by (with_reducible repeat (first | apply Kd.V_alloc | apply Kd.V_drewN | apply Kd.V_drew)); exact Kd.V_mono (Kd.V_far (p := ⟨gb363, 1, none⟩) (Kd.V_far (p := ⟨gb363, 0, none⟩) (Kd.V_far (p := ⟨gb362, 1, none⟩) (Kd.V_far (p := ⟨gb362, 0, none⟩) (Kd.V_mono (Kd.V_mono HO361.out (fun k_ hk => (⟨hk, hk.2.2.1⟩ : _ ∧ k_ ≠ gb362))) (fun k_ hk => (⟨hk, hk.1.2.2.2⟩ : _ ∧ k_ ≠ gb363))) (fun _ hk => hk.1.2) (.bool t354)) (fun _ hk => hk.1.2) (.slice Ao41 t355.length co41)) (fun _ hk => hk.2) (.bool t358)) (fun _ hk => hk.2) (.slice Ao44 t359.length co44)) (fun _ hk => ⟨hk.1.1.1, ⟨hk.1.1.2.1, ⟨hk.1.1.2.2.1, hk.1.1.2.2.2⟩⟩⟩)⟩
     have n4_ : Aside0 (((((w39.setCell ⟨gb362, 0, none⟩ (.bool t354)).setCell ⟨gb362, 1, none⟩ (.slice Ao41 t355.length co41)).setCell ⟨gb363, 0, none⟩ (.bool t358)).setCell ⟨gb363, 1, none⟩ (.slice Ao44 t359.length co44)).heap[gb338]? = some (.cells #[.bool true, .slice A0_1 l0_1.length c0_1] 27 (0, 0))) := ⟨by (with_reducible repeat (first | refine blk_drewN ?_ _ | refine blk_drew ?_ | refine blk_alloc ?_ _)); refine blk_far ?_ NB338_363.out _; (with_reducible repeat (first | refine blk_drewN ?_ _ | refine blk_drew ?_ | refine blk_alloc ?_ _)); refine blk_far ?_ NB338_363.out _; (with_reducible repeat (first | refine blk_drewN ?_ _ | refine blk_drew ?_ | refine blk_alloc ?_ _)); refine blk_far ?_ NB338_362.out _; (with_reducible repeat (first | refine blk_drewN ?_ _ | refine blk_drew ?_ | refine blk_alloc ?_ _)); refine blk_far ?_ NB338_362.out _; (with_reducible repeat (first | refine blk_drewN ?_ _ | refine blk_drew ?_ | refine blk_alloc ?_ _)); exact BK338.out⟩
     have n5_ : Aside0 (((((w39.setCell ⟨gb362, 0, none⟩ (.bool t354)).setCell ⟨gb362, 1, none⟩ (.slice Ao41 t355.length co41)).setCell ⟨gb363, 0, none⟩ (.bool t358)).setCell ⟨gb363, 1, none⟩ (.slice Ao44 t359.length co44)).heap[gb343]? = some (.cells #[.bool t339, .slice Ao10 t340.length co10] 27 (0, 0))) := ⟨by (with_reducible repeat (first | refine blk_drewN ?_ _ | refine blk_drew ?_ | refine blk_alloc ?_ _)); refine blk_far ?_ NB343_363.out _; (with_reducible repeat (first | refine blk_drewN ?_ _ | refine blk_drew ?_ | refine blk_alloc ?_ _)); refine blk_far ?_ NB343_363.out _; (with_reducible repeat (first | refine blk_drewN ?_ _ | refine blk_drew ?_ | refine blk_alloc ?_ _)); refine blk_far ?_ NB343_362.out _; (with_reducible repeat (first | refine blk_drewN ?_ _ | refine blk_drew ?_ | refine blk_alloc ?_ _)); refine blk_far ?_ NB343_362.out _; (with_reducible repeat (first | refine blk_drewN ?_ _ | refine blk_drew ?_ | refine blk_alloc ?_ _)); exact BK343.out⟩
     have n6_ : Aside0 (((((w39.setCell ⟨gb362, 0, none⟩ (.bool t354)).setCell ⟨gb362, 1, none⟩ (.slice Ao41 t355.length co41)).setCell ⟨gb363, 0, none⟩ (.bool t358)).setCell ⟨gb363, 1, none⟩ (.slice Ao44 t359.length co44)).heap[gb362]? = some (.cells #[.bool t354, .slice Ao41 t355.length co41] 27 (0, 0))) := ⟨by (with_reducible repeat (first | refine blk_drewN ?_ _ | refine blk_drew ?_ | refine blk_alloc ?_ _)); refine blk_far ?_ NB362_363.out _; (with_reducible repeat (first | refine blk_drewN ?_ _ | refine blk_drew ?_ | refine blk_alloc ?_ _)); refine blk_far ?_ NB362_363.out _; (with_reducible repeat (first | refine blk_drewN ?_ _ | refine blk_drew ?_ | refine blk_alloc ?_ _)); refine blk_put (cs := #[.bool t354, .slice none 0 0]) ?_ 1 _ rfl; (with_reducible repeat (first | refine blk_drewN ?_ _ | refine blk_drew ?_ | refine blk_alloc ?_ _)); refine blk_put (cs := #[.bool false, .slice none 0 0]) ?_ 0 _ rfl; (with_reducible repeat (first | refine blk_drewN ?_ _ | refine blk_drew ?_ | refine blk_alloc ?_ _)); exact BK362.out⟩
     have n7_ : Aside0 (((((w39.setCell ⟨gb362, 0, none⟩ (.bool t354)).setCell ⟨gb362, 1, none⟩ (.slice Ao41 t355.length co41)).setCell ⟨gb363, 0, none⟩ (.bool t358)).setCell ⟨gb363, 1, none⟩ (.slice Ao44 t359.length co44)).heap[gb363]? = some (.cells #[.bool t358, .slice Ao44 t359.length co44] 27 (0, 0))) := ⟨by (with_reducible repeat (first | refine blk_drewN ?_ _ | refine blk_drew ?_ | refine blk_alloc ?_ _)); refine blk_put (cs := #[.bool t358, .slice none 0 0]) ?_ 1 _ rfl; (with_reducible repeat (first | refine blk_drewN ?_ _ | refine blk_drew ?_ | refine blk_alloc ?_ _)); refine blk_put (cs := #[.bool false, .slice none 0 0]) ?_ 0 _ rfl; (with_reducible repeat (first | refine blk_drewN ?_ _ | refine blk_drew ?_ | refine blk_alloc ?_ _)); refine blk_far ?_ NB363_362.out _; (with_reducible repeat (first | refine blk_drewN ?_ _ | refine blk_drew ?_ | refine blk_alloc ?_ _)); refine blk_far ?_ NB363_362.out _; (with_reducible repeat (first | refine blk_drewN ?_ _ | refine blk_drew ?_ | refine blk_alloc ?_ _)); exact BK363.out⟩
     have n8_ : Aside0 (Below w.heap.size w ((((w39.setCell ⟨gb362, 0, none⟩ (.bool t354)).setCell ⟨gb362, 1, none⟩ (.slice Ao41 t355.length co41)).setCell ⟨gb363, 0, none⟩ (.bool t358)).setCell ⟨gb363, 1, none⟩ (.slice Ao44 t359.length co44))) := ⟨by repeat (first | (with_reducible first | exact HB.out | apply below_alloc | apply pw_below_drewN | apply below_drew1 | refine below_set ?_ GE338.out | refine below_set ?_ GE343.out | refine below_set ?_ GE362.out | refine below_set ?_ GE363.out) | exact HB.out)⟩
     (try clear HO_344001)
     (try clear HO353)
     (try clear HO357)
     (try clear HO361)
     (try clear BK338)
     (try clear BK343)
     (try clear BK362)
     (try clear BK363)
     (try clear HB)
     generalize ((((w39.setCell ⟨gb362, 0, none⟩ (.bool t354)).setCell ⟨gb362, 1, none⟩ (.slice Ao41 t355.length co41)).setCell ⟨gb363, 0, none⟩ (.bool t358)).setCell ⟨gb363, 1, none⟩ (.slice Ao44 t359.length co44)) = w46 at n0_ n1_ n2_ n3_ n4_ n5_ n6_ n7_ n8_ ⊢
     have HO_344001 := n0_
     have HO353 := n1_
     have HO357 := n2_
     have HO361 := n3_
     have BK338 := n4_
     have BK343 := n5_
     have BK362 := n6_
     have BK363 := n7_
     have HB := n8_
     clear n0_ n1_ n2_ n3_ n4_ n5_ n6_ n7_ n8_
     have n0_ := Aside0.mk (Kd.V_drew HO_344001.out)
     have n1_ := Aside0.mk (Kd.V_drew HO353.out)
     have n2_ := Aside0.mk (Kd.V_drew HO357.out)
     have n3_ := Aside0.mk (Kd.V_drew HO361.out)
     have n4_ := Aside0.mk (blk_drew BK338.out)
     have n5_ := Aside0.mk (blk_drew BK343.out)
     have n6_ := Aside0.mk (blk_drew BK362.out)
     have n7_ := Aside0.mk (blk_drew BK363.out)
     have n8_ := Aside0.mk (below_drew1 HB.out)
     clear HO_344001 HO353 HO357 HO361 BK338 BK343 BK362 BK363 HB
     have HO_344001 := n0_
     have HO353 := n1_
     have HO357 := n2_
     have HO361 := n3_
     have BK338 := n4_
     have BK343 := n5_
     have BK362 := n6_
     have BK363 := n7_
     have HB := n8_
     clear n0_ n1_ n2_ n3_ n4_ n5_ n6_ n7_ n8_
     refine start_ (n := 6) (S := fun w' => w'.cell? ⟨gb363, 0, none⟩ = some (.bool t358) ∧ w'.cell? ⟨gb363, 1, none⟩ = some (.slice Ao44 t359.length co44)) (ds := []) #[false, false, false, false, false, false] (by kernel_rfl) rfl rfl ⟨(blk_cell BK363.out 0).trans rfl, (blk_cell BK363.out 1).trans rfl⟩ (fun hHeld => ?_)
     generalize w46.drew = w47 at HO_344001 HO353 HO357 HO361 BK338 BK343 BK362 BK363 HB hHeld ⊢
     refine pure_ (i := 1) (N := some 39) (v := ?_) (a' := ?_) #[false, true, false, false, false, false] rfl rfl (by kernel_rfl) (fun _ _ _ h => h) (Or.inl ⟨by rfl, ?_⟩) ?_ ?_
     rotate_left
     ·intro w'
      go_simp
      with_reducible rfl
     rotate_left
     ·simp only [Act.put, List.setIfInBounds_toArray, List.set_cons_zero, List.set_cons_succ, i64_w, i32_w]
      rfl
     refine pure_ (i := 2) (N := some 40) (v := ?_) (a' := ?_) #[false, true, true, false, false, false] rfl rfl (by kernel_rfl) (fun _ _ _ h => h) (Or.inl ⟨by rfl, ?_⟩) ?_ ?_
     rotate_left
     ·intro w'
      go_simp
      with_reducible rfl
     rotate_left
     ·simp only [Act.put, List.setIfInBounds_toArray, List.set_cons_zero, List.set_cons_succ, i64_w, i32_w]
      rfl
     refine take_ (i := 0) (N := some 38) (v := ?_) (a' := ?_) #[true, true, true, false, false, false] rfl rfl (by kernel_rfl) (fun _ _ _ h => h) (Or.inl ⟨by rfl, ?_⟩) hHeld ?_ ?_
     rotate_left
     ·rintro w' ⟨s0, s1⟩
      go_simp
      with_reducible rfl
     rotate_left
     ·simp only [Act.put, List.setIfInBounds_toArray, List.set_cons_zero, List.set_cons_succ, i64_w, i32_w]
      rfl
     refine one_ (i := 3) (N := some 41) #[true, true, true, true, false, false] rfl rfl (by kernel_rfl) (by decide) (fun K hK => ?_)
     refine goes_ Tryz.func13 (by kernel_rfl) rfl #[.int .i64 (wrap64 (64 * a1))] (by rfl) rfl rfl (by (try simp only [List.map_toArray, List.map_cons, List.map_nil]); first | done | rfl | (simp only [List.length_drop, List.length_take]; rfl)) ?_
     with_reducible refine (spec_Two.calls kj3 (wrap64 (64 * a1)) t364 t365 _ A27.out).mono ?_
     rintro e w48 ⟨v366, rfl, ho0, hb⟩
     refine ⟨_, rfl, ?_⟩
     have n0_ := Aside0.mk (Kd.V_below (by (with_reducible repeat (first | apply Kd.V_alloc | apply Kd.V_drewN | apply Kd.V_drew)); exact HO_344001.out) hb)
     have n1_ := Aside0.mk (Kd.V_below (by (with_reducible repeat (first | apply Kd.V_alloc | apply Kd.V_drewN | apply Kd.V_drew)); exact HO353.out) hb)
     have n2_ := Aside0.mk (Kd.V_below (by (with_reducible repeat (first | apply Kd.V_alloc | apply Kd.V_drewN | apply Kd.V_drew)); exact HO357.out) hb)
     have n3_ := Aside0.mk (Kd.V_below (by (with_reducible repeat (first | apply Kd.V_alloc | apply Kd.V_drewN | apply Kd.V_drew)); exact HO361.out) hb)
     have n4_ := Aside0.mk (Kd.V_lower (Kd.V_mono (ok' := fun k_ => k_ ≠ gb338 ∧ k_ ≠ gb343 ∧ k_ ≠ gb362 ∧ k_ ≠ gb363) ho0 (fun k_ hk_ => ⟨(Kd.freshB (g := gb338) (o := .cells #[.bool true, .slice A0_1 l0_1.length c0_1] 27 (0, 0)) (by (with_reducible repeat (first | refine blk_drewN ?_ _ | refine blk_drew ?_ | refine blk_alloc ?_ _)); exact BK338.out) k_ hk_), (Kd.freshB (g := gb343) (o := .cells #[.bool t339, .slice Ao10 t340.length co10] 27 (0, 0)) (by (with_reducible repeat (first | refine blk_drewN ?_ _ | refine blk_drew ?_ | refine blk_alloc ?_ _)); exact BK343.out) k_ hk_), (Kd.freshB (g := gb362) (o := .cells #[.bool t354, .slice Ao41 t355.length co41] 27 (0, 0)) (by (with_reducible repeat (first | refine blk_drewN ?_ _ | refine blk_drew ?_ | refine blk_alloc ?_ _)); exact BK362.out) k_ hk_), (Kd.freshB (g := gb363) (o := .cells #[.bool t358, .slice Ao44 t359.length co44] 27 (0, 0)) (by (with_reducible repeat (first | refine blk_drewN ?_ _ | refine blk_drew ?_ | refine blk_alloc ?_ _)); exact BK363.out) k_ hk_)⟩)) (below_size (by repeat (first | (with_reducible first | exact HB.out | apply below_alloc | apply pw_below_drewN | apply below_drew1 | refine below_set ?_ GE338.out | refine below_set ?_ GE343.out | refine below_set ?_ GE362.out | refine below_set ?_ GE363.out) | exact HB.out))))
     have n5_ := Aside0.mk (blk_below (g := gb338) (o := .cells #[.bool true, .slice A0_1 l0_1.length c0_1] 27 (0, 0)) (by (with_reducible repeat (first | refine blk_drewN ?_ _ | refine blk_drew ?_ | refine blk_alloc ?_ _)); exact BK338.out) hb)
     have n6_ := Aside0.mk (blk_below (g := gb343) (o := .cells #[.bool t339, .slice Ao10 t340.length co10] 27 (0, 0)) (by (with_reducible repeat (first | refine blk_drewN ?_ _ | refine blk_drew ?_ | refine blk_alloc ?_ _)); exact BK343.out) hb)
     have n7_ := Aside0.mk (blk_below (g := gb362) (o := .cells #[.bool t354, .slice Ao41 t355.length co41] 27 (0, 0)) (by (with_reducible repeat (first | refine blk_drewN ?_ _ | refine blk_drew ?_ | refine blk_alloc ?_ _)); exact BK362.out) hb)
     have n8_ := Aside0.mk (blk_below (g := gb363) (o := .cells #[.bool t358, .slice Ao44 t359.length co44] 27 (0, 0)) (by (with_reducible repeat (first | refine blk_drewN ?_ _ | refine blk_drew ?_ | refine blk_alloc ?_ _)); exact BK363.out) hb)
     have n9_ := Aside0.mk (below_step (by repeat (first | (with_reducible first | exact HB.out | apply below_alloc | apply pw_below_drewN | apply below_drew1 | refine below_set ?_ GE338.out | refine below_set ?_ GE343.out | refine below_set ?_ GE362.out | refine below_set ?_ GE363.out) | exact HB.out)) hb)
     clear HO_344001 HO353 HO357 HO361 BK338 BK343 BK362 BK363 HB
     have HO_344001 := n0_
     have HO353 := n1_
     have HO357 := n2_
     have HO361 := n3_
     have HO367 := n4_
     have BK338 := n5_
     have BK343 := n6_
     have BK362 := n7_
     have BK363 := n8_
     have HB := n9_
     clear n0_ n1_ n2_ n3_ n4_ n5_ n6_ n7_ n8_ n9_
     (try clear hb)
     (try clear hb2)
     (try clear hk)
     (try clear hi)
     (try clear ho0)
     obtain ⟨Ao49, co49, eo49⟩ := Kd.V_slice HO367.out
     (first | subst eo49 | (injection eo49 with f1_ f2_ f3_; have f4_ := f1_.symm; have f5_ := f3_.symm; clear f1_ f2_ f3_; subst f4_; subst f5_))
     refine hK.out _ _ ⟨(blk_cell BK363.out 0).trans rfl, (blk_cell BK363.out 1).trans rfl⟩ (fun hHeld => ?_)
     clear hK K
     refine norm_ (a' := ?_) ?_ ?_
     rotate_left
     ·show Act.put _ (some 41) _ = _
      simp only [Act.put, List.setIfInBounds_toArray, List.set_cons_zero, List.set_cons_succ, i64_w, i32_w]
      rfl
     refine one_ (i := 4) (N := some 42) #[true, true, true, true, true, false] rfl rfl (by kernel_rfl) (by decide) (fun K hK => ?_)
     refine goes_ Tryz.func25 (by kernel_rfl) rfl #[.agg #[.bool t358, .slice Ao44 t359.length co44], .agg #[.bool t364, .slice Ao49 t365.length co49]] (by rfl) rfl rfl (by (try simp only [List.map_toArray, List.map_cons, List.map_nil]); first | done | rfl | (simp only [List.length_drop, List.length_take]; rfl)) ?_
     with_reducible refine (spec_WideAdd.calls kj3 t358 _ _ t359 t364 _ _ t365 t368 t369 _ ?side1 ?side2 ?side3 ?side4 A28.out).mono ?_
     (case side1 => repeat (first | exact (Kd.V_reads' HO361.out).2.2 | (with_reducible refine Kd.C_alloc ?_ _) | (with_reducible refine Kd.C_drewN ?_ _) | (with_reducible refine Kd.C_drew ?_)))
     (case side2 => exact (Kd.V_reads' HO361.out).2.1)
     (case side3 => repeat (first | exact (Kd.V_reads' HO367.out).2.2 | (with_reducible refine Kd.C_alloc ?_ _) | (with_reducible refine Kd.C_drewN ?_ _) | (with_reducible refine Kd.C_drew ?_)))
     (case side4 => exact (Kd.V_reads' HO367.out).2.1)
     rintro e w50 ⟨v370, rfl, ho0, hb⟩
     refine ⟨_, rfl, ?_⟩
     have n0_ := Aside0.mk (Kd.V_below (by (with_reducible repeat (first | apply Kd.V_alloc | apply Kd.V_drewN | apply Kd.V_drew)); exact HO_344001.out) hb)
     have n1_ := Aside0.mk (Kd.V_below (by (with_reducible repeat (first | apply Kd.V_alloc | apply Kd.V_drewN | apply Kd.V_drew)); exact HO353.out) hb)
     have n2_ := Aside0.mk (Kd.V_below (by (with_reducible repeat (first | apply Kd.V_alloc | apply Kd.V_drewN | apply Kd.V_drew)); exact HO357.out) hb)
     have n3_ := Aside0.mk (Kd.V_below (by (with_reducible repeat (first | apply Kd.V_alloc | apply Kd.V_drewN | apply Kd.V_drew)); exact HO361.out) hb)
     have n4_ := Aside0.mk (Kd.V_below (by (with_reducible repeat (first | apply Kd.V_alloc | apply Kd.V_drewN | apply Kd.V_drew)); exact HO367.out) hb)
     have n5_ := Aside0.mk (Kd.V_lower (Kd.V_mono (ok' := fun k_ => k_ ≠ gb338 ∧ k_ ≠ gb343 ∧ k_ ≠ gb362 ∧ k_ ≠ gb363) ho0 (fun k_ hk_ => ⟨(Kd.freshB (g := gb338) (o := .cells #[.bool true, .slice A0_1 l0_1.length c0_1] 27 (0, 0)) (by (with_reducible repeat (first | refine blk_drewN ?_ _ | refine blk_drew ?_ | refine blk_alloc ?_ _)); exact BK338.out) k_ hk_), (Kd.freshB (g := gb343) (o := .cells #[.bool t339, .slice Ao10 t340.length co10] 27 (0, 0)) (by (with_reducible repeat (first | refine blk_drewN ?_ _ | refine blk_drew ?_ | refine blk_alloc ?_ _)); exact BK343.out) k_ hk_), (Kd.freshB (g := gb362) (o := .cells #[.bool t354, .slice Ao41 t355.length co41] 27 (0, 0)) (by (with_reducible repeat (first | refine blk_drewN ?_ _ | refine blk_drew ?_ | refine blk_alloc ?_ _)); exact BK362.out) k_ hk_), (Kd.freshB (g := gb363) (o := .cells #[.bool t358, .slice Ao44 t359.length co44] 27 (0, 0)) (by (with_reducible repeat (first | refine blk_drewN ?_ _ | refine blk_drew ?_ | refine blk_alloc ?_ _)); exact BK363.out) k_ hk_)⟩)) (below_size (by repeat (first | (with_reducible first | exact HB.out | apply below_alloc | apply pw_below_drewN | apply below_drew1 | refine below_set ?_ GE338.out | refine below_set ?_ GE343.out | refine below_set ?_ GE362.out | refine below_set ?_ GE363.out) | exact HB.out))))
     have n6_ := Aside0.mk (blk_below (g := gb338) (o := .cells #[.bool true, .slice A0_1 l0_1.length c0_1] 27 (0, 0)) (by (with_reducible repeat (first | refine blk_drewN ?_ _ | refine blk_drew ?_ | refine blk_alloc ?_ _)); exact BK338.out) hb)
     have n7_ := Aside0.mk (blk_below (g := gb343) (o := .cells #[.bool t339, .slice Ao10 t340.length co10] 27 (0, 0)) (by (with_reducible repeat (first | refine blk_drewN ?_ _ | refine blk_drew ?_ | refine blk_alloc ?_ _)); exact BK343.out) hb)
     have n8_ := Aside0.mk (blk_below (g := gb362) (o := .cells #[.bool t354, .slice Ao41 t355.length co41] 27 (0, 0)) (by (with_reducible repeat (first | refine blk_drewN ?_ _ | refine blk_drew ?_ | refine blk_alloc ?_ _)); exact BK362.out) hb)
     have n9_ := Aside0.mk (blk_below (g := gb363) (o := .cells #[.bool t358, .slice Ao44 t359.length co44] 27 (0, 0)) (by (with_reducible repeat (first | refine blk_drewN ?_ _ | refine blk_drew ?_ | refine blk_alloc ?_ _)); exact BK363.out) hb)
     have n10_ := Aside0.mk (below_step (by repeat (first | (with_reducible first | exact HB.out | apply below_alloc | apply pw_below_drewN | apply below_drew1 | refine below_set ?_ GE338.out | refine below_set ?_ GE343.out | refine below_set ?_ GE362.out | refine below_set ?_ GE363.out) | exact HB.out)) hb)
     clear HO_344001 HO353 HO357 HO361 HO367 BK338 BK343 BK362 BK363 HB
     have HO_344001 := n0_
     have HO353 := n1_
     have HO357 := n2_
     have HO361 := n3_
     have HO367 := n4_
     have HO371 := n5_
     have BK338 := n6_
     have BK343 := n7_
     have BK362 := n8_
     have BK363 := n9_
     have HB := n10_
     clear n0_ n1_ n2_ n3_ n4_ n5_ n6_ n7_ n8_ n9_ n10_
     (try clear hb)
     (try clear hb2)
     (try clear hk)
     (try clear hi)
     (try clear ho0)
     obtain ⟨Ao52, co52, eo52⟩ := Kd.V_slice HO371.out
     (first | subst eo52 | (injection eo52 with f1_ f2_ f3_; have f4_ := f1_.symm; have f5_ := f3_.symm; clear f1_ f2_ f3_; subst f4_; subst f5_))
     refine hK.out _ _ ⟨(blk_cell BK363.out 0).trans rfl, (blk_cell BK363.out 1).trans rfl⟩ (fun hHeld => ?_)
     clear hK K
     refine norm_ (a' := ?_) ?_ ?_
     rotate_left
     ·show Act.put _ (some 42) _ = _
      simp only [Act.put, List.setIfInBounds_toArray, List.set_cons_zero, List.set_cons_succ, i64_w, i32_w]
      rfl
     refine one_ (i := 5) (N := none) #[true, true, true, true, true, true] rfl rfl (by kernel_rfl) (by decide) (fun K hK => ?_)
     have hs51 : w50.cell? ⟨gb338, 0, none⟩ = some (.bool true) := (blk_cell BK338.out 0).trans rfl
     have hfs51 := blk_frozen BK338.out 0
     have hns51_1 := NB343_338.out
     have hns51_2 := NB362_338.out
     have hns51_3 := NB363_338.out
     have hms51_1 := NB338_343.out
     have hms51_2 := NB338_362.out
     have hms51_3 := NB338_363.out
     have hs53 : w50.cell? ⟨gb338, 1, none⟩ = some (.slice A0_1 l0_1.length c0_1) := (blk_cell BK338.out 1).trans rfl
     have hfs53 := blk_frozen BK338.out 1
     have hns53_1 := NB343_338.out
     have hns53_2 := NB362_338.out
     have hns53_3 := NB363_338.out
     have hms53_1 := NB338_343.out
     have hms53_2 := NB338_362.out
     have hms53_3 := NB338_363.out
     refine skip_ (w1 := ?_) (by rfl) rfl ?_ ?_
     rotate_left
     ·go_simp
      rfl
     refine hK.out _ _ ⟨((cell_far (p := ⟨gb338, _, none⟩) NB363_338.out _).trans (((cell_far (p := ⟨gb338, _, none⟩) NB363_338.out _).trans (hHeld.1)))), ((cell_far (p := ⟨gb338, _, none⟩) NB363_338.out _).trans (((cell_far (p := ⟨gb338, _, none⟩) NB363_338.out _).trans (hHeld.2))))⟩ (fun hHeld => ?_)
     clear hK K
     refine done_ (by kernel_rfl) ?_
     try go_wp2_with (first | ((with_reducible refine gate_dst (N := 44) rfl ?_); refine Kd.R_make (Kd.int .u64) _ 30 rfl (N := 44) rfl 51 _ _ rfl a1 rfl rfl Tryz.underlying51 (.int .u64 0) 8 info30 rfl (by decide) (by omega) 0 (ok := fun _ => True) (okp := fun _ => True) rfl (fun _ hk => hk) trivial (of_decide_eq_true (by first | (with_reducible assumption) | assumption)) (Nat.le_trans (Nat.mul_le_mul_right _ (of_decide_eq_true (by first | (with_reducible assumption) | assumption) : a1.toNat ≤ 35184372088832)) (by omega)) (Below.refl _ _) (Nat.le_refl _) ?_; intro v373 w54 ho55 hb hg_ hnew_; clear hg_ hnew_; (first | rw [← Ny372.out] at ho55 | (simp only [Int.reduceToNat] at ho55; rw [← Ny372.out] at ho55)); have n0_ := Aside0.mk (Kd.V_elder' (by (with_reducible repeat (first | apply Kd.V_alloc | apply Kd.V_drewN | apply Kd.V_drew)); exact (Kd.V_mono (Kd.V_far (p := ⟨gb338, 1, none⟩) (Kd.V_far (p := ⟨gb338, 0, none⟩) (Kd.V_mono HO_344001.out (fun k_ hk => (⟨hk, hk.1⟩ : _ ∧ k_ ≠ gb338))) (fun _ hk => hk.2) (.bool t368)) (fun _ hk => hk.2) (.slice Ao52 t369.length co52)) (fun _ h_ => h_.1))) (Kd.R_base ho55) hb); have n1_ := Aside0.mk (Kd.V_elder' (by (with_reducible repeat (first | apply Kd.V_alloc | apply Kd.V_drewN | apply Kd.V_drew)); exact (Kd.V_mono (Kd.V_far (p := ⟨gb338, 1, none⟩) (Kd.V_far (p := ⟨gb338, 0, none⟩) (Kd.V_mono HO353.out (fun k_ hk => (⟨hk, hk.1⟩ : _ ∧ k_ ≠ gb338))) (fun _ hk => hk.2) (.bool t368)) (fun _ hk => hk.2) (.slice Ao52 t369.length co52)) (fun _ h_ => h_.1))) (Kd.R_base ho55) hb); have n2_ := Aside0.mk (Kd.V_elder' (by (with_reducible repeat (first | apply Kd.V_alloc | apply Kd.V_drewN | apply Kd.V_drew)); exact (Kd.V_mono (Kd.V_far (p := ⟨gb338, 1, none⟩) (Kd.V_far (p := ⟨gb338, 0, none⟩) (Kd.V_mono HO357.out (fun k_ hk => (⟨hk, hk.1⟩ : _ ∧ k_ ≠ gb338))) (fun _ hk => hk.2) (.bool t368)) (fun _ hk => hk.2) (.slice Ao52 t369.length co52)) (fun _ h_ => h_.1))) (Kd.R_base ho55) hb); have n3_ := Aside0.mk (Kd.V_elder' (by (with_reducible repeat (first | apply Kd.V_alloc | apply Kd.V_drewN | apply Kd.V_drew)); exact (Kd.V_mono (Kd.V_far (p := ⟨gb338, 1, none⟩) (Kd.V_far (p := ⟨gb338, 0, none⟩) (Kd.V_mono HO361.out (fun k_ hk => (⟨hk, hk.1⟩ : _ ∧ k_ ≠ gb338))) (fun _ hk => hk.2) (.bool t368)) (fun _ hk => hk.2) (.slice Ao52 t369.length co52)) (fun _ h_ => h_.1))) (Kd.R_base ho55) hb); have n4_ := Aside0.mk (Kd.V_elder' (by (with_reducible repeat (first | apply Kd.V_alloc | apply Kd.V_drewN | apply Kd.V_drew)); exact (Kd.V_mono (Kd.V_far (p := ⟨gb338, 1, none⟩) (Kd.V_far (p := ⟨gb338, 0, none⟩) (Kd.V_mono HO367.out (fun k_ hk => (⟨hk, hk.1⟩ : _ ∧ k_ ≠ gb338))) (fun _ hk => hk.2) (.bool t368)) (fun _ hk => hk.2) (.slice Ao52 t369.length co52)) (fun _ h_ => h_.1))) (Kd.R_base ho55) hb); have n5_ := Aside0.mk (Kd.V_elder' (by (with_reducible repeat (first | apply Kd.V_alloc | apply Kd.V_drewN | apply Kd.V_drew)); exact (Kd.V_mono (Kd.V_far (p := ⟨gb338, 1, none⟩) (Kd.V_far (p := ⟨gb338, 0, none⟩) (Kd.V_mono HO371.out (fun k_ hk => (⟨hk, hk.1⟩ : _ ∧ k_ ≠ gb338))) (fun _ hk => hk.2) (.bool t368)) (fun _ hk => hk.2) (.slice Ao52 t369.length co52)) (fun _ h_ => h_.1))) (Kd.R_base ho55) hb); have n6_ := Aside0.mk (Kd.R_lower ho55 (below_size (by repeat (first | (with_reducible first | exact HB.out | apply below_alloc | apply pw_below_drewN | apply below_drew1 | refine below_set ?_ GE338.out | refine below_set ?_ GE343.out | refine below_set ?_ GE362.out | refine below_set ?_ GE363.out) | exact HB.out)))); have n7_ := Aside0.mk (blk_below (g := gb338) (o := .cells #[.bool t368, .slice Ao52 t369.length co52] 27 (0, 0)) (by (with_reducible repeat (first | refine blk_drewN ?_ _ | refine blk_drew ?_ | refine blk_alloc ?_ _)); refine blk_put (cs := #[.bool t368, .slice A0_1 l0_1.length c0_1]) ?_ 1 _ rfl; (with_reducible repeat (first | refine blk_drewN ?_ _ | refine blk_drew ?_ | refine blk_alloc ?_ _)); refine blk_put (cs := #[.bool true, .slice A0_1 l0_1.length c0_1]) ?_ 0 _ rfl; (with_reducible repeat (first | refine blk_drewN ?_ _ | refine blk_drew ?_ | refine blk_alloc ?_ _)); exact BK338.out) hb); have n8_ := Aside0.mk (blk_below (g := gb343) (o := .cells #[.bool t339, .slice Ao10 t340.length co10] 27 (0, 0)) (by (with_reducible repeat (first | refine blk_drewN ?_ _ | refine blk_drew ?_ | refine blk_alloc ?_ _)); refine blk_far ?_ NB343_338.out _; (with_reducible repeat (first | refine blk_drewN ?_ _ | refine blk_drew ?_ | refine blk_alloc ?_ _)); refine blk_far ?_ NB343_338.out _; (with_reducible repeat (first | refine blk_drewN ?_ _ | refine blk_drew ?_ | refine blk_alloc ?_ _)); exact BK343.out) hb); have n9_ := Aside0.mk (blk_below (g := gb362) (o := .cells #[.bool t354, .slice Ao41 t355.length co41] 27 (0, 0)) (by (with_reducible repeat (first | refine blk_drewN ?_ _ | refine blk_drew ?_ | refine blk_alloc ?_ _)); refine blk_far ?_ NB362_338.out _; (with_reducible repeat (first | refine blk_drewN ?_ _ | refine blk_drew ?_ | refine blk_alloc ?_ _)); refine blk_far ?_ NB362_338.out _; (with_reducible repeat (first | refine blk_drewN ?_ _ | refine blk_drew ?_ | refine blk_alloc ?_ _)); exact BK362.out) hb); have n10_ := Aside0.mk (blk_below (g := gb363) (o := .cells #[.bool t358, .slice Ao44 t359.length co44] 27 (0, 0)) (by (with_reducible repeat (first | refine blk_drewN ?_ _ | refine blk_drew ?_ | refine blk_alloc ?_ _)); refine blk_far ?_ NB363_338.out _; (with_reducible repeat (first | refine blk_drewN ?_ _ | refine blk_drew ?_ | refine blk_alloc ?_ _)); refine blk_far ?_ NB363_338.out _; (with_reducible repeat (first | refine blk_drewN ?_ _ | refine blk_drew ?_ | refine blk_alloc ?_ _)); exact BK363.out) hb); have n11_ := Aside0.mk (below_step (by repeat (first | (with_reducible first | exact HB.out | apply below_alloc | apply pw_below_drewN | apply below_drew1 | refine below_set ?_ GE338.out | refine below_set ?_ GE343.out | refine below_set ?_ GE362.out | refine below_set ?_ GE363.out) | exact HB.out)) hb); clear HO_344001; clear HO353; clear HO357; clear HO361; clear HO367; clear HO371; clear BK338; clear BK343; clear BK362; clear BK363; clear HB; have HO_344001 := n0_; have HO353 := n1_; have HO357 := n2_; have HO361 := n3_; have HO367 := n4_; have HO371 := n5_; have HO374 := n6_; have BK338 := n7_; have BK343 := n8_; have BK362 := n9_; have BK363 := n10_; have HB := n11_; clear n0_ n1_ n2_ n3_ n4_ n5_ n6_ n7_ n8_ n9_ n10_ n11_; clear hb ho55; obtain ⟨Ao56, co56, eo56⟩ := Kd.R_slice HO374.out; subst eo56))
     go_loopg [47] kj3 (fun kq v47 w' => ∃ (x10_2 : List Int) (x47_2 : Int), v47 = .int .i64 x47_2 ∧ Aside0 (spec_ToWords.l0 kq x7_3 x10_2 (y372.length : Int) x47_2 t368 t369 = some (r1, r2)) ∧ Aside0 (kq ≤ kj3) ∧ Aside0 (Kd.R (Kd.int .u64) 30 w' w.heap.size (fun _ => True) (.slice Ao56 y372.length co56) x10_2) ∧ Aside0 (Kd.V (Kd.int .u32) 22 w' w.heap.size (fun k_ => some k_ ≠ ((.slice Ao56 y372.length co56) : Value).ownBlock ∧ k_ ≠ gb338 ∧ k_ ≠ gb343 ∧ k_ ≠ gb362 ∧ k_ ≠ gb363) (.slice Ao52 t369.length co52) t369) ∧ Aside0 (Kd.V (Kd.int .u32) 22 w' w.heap.size (fun k_ => some k_ ≠ ((.slice Ao56 y372.length co56) : Value).ownBlock ∧ k_ ≠ gb338 ∧ k_ ≠ gb343 ∧ k_ ≠ gb362 ∧ k_ ≠ gb363) (.slice Ao10 t340.length co10) t340) ∧ Aside0 (Kd.V (Kd.int .u32) 22 w' w.heap.size (fun k_ => some k_ ≠ ((.slice Ao56 y372.length co56) : Value).ownBlock ∧ k_ ≠ gb338 ∧ k_ ≠ gb343 ∧ k_ ≠ gb362 ∧ k_ ≠ gb363) (.slice Ao41 t355.length co41) t355) ∧ Aside0 (Kd.V (Kd.int .u32) 22 w' w.heap.size (fun k_ => some k_ ≠ ((.slice Ao56 y372.length co56) : Value).ownBlock ∧ k_ ≠ gb338 ∧ k_ ≠ gb343 ∧ k_ ≠ gb362 ∧ k_ ≠ gb363) (.slice Ao44 t359.length co44) t359) ∧ Aside0 (w'.heap[gb338]? = some (.cells #[.bool t368, (.slice Ao52 t369.length co52)] 27 (0, 0))) ∧ Aside0 (w'.heap[gb343]? = some (.cells #[.bool t339, (.slice Ao10 t340.length co10)] 27 (0, 0))) ∧ Aside0 (w'.heap[gb362]? = some (.cells #[.bool t354, (.slice Ao41 t355.length co41)] 27 (0, 0))) ∧ Aside0 (w'.heap[gb363]? = some (.cells #[.bool t358, (.slice Ao44 t359.length co44)] 27 (0, 0))) ∧ Aside0 (Below w.heap.size w w'))
     case atStart => exact ⟨(y372), (0), (by first | rfl | (simp; done) | (simp [*]; done)), H', ⟨Nat.le_refl _⟩, ⟨by (with_reducible repeat (first | apply Kd.R_alloc | apply Kd.R_drewN | apply Kd.R_drew)); exact HO374.out⟩, ⟨by (with_reducible repeat (first | apply Kd.V_alloc | apply Kd.V_drewN | apply Kd.V_drew)); exact Kd.V_mono HO371.out (fun _ hk => ⟨hk.2, ⟨hk.1.1, ⟨hk.1.2.1, ⟨hk.1.2.2.1, hk.1.2.2.2⟩⟩⟩⟩)⟩, ⟨by (with_reducible repeat (first | apply Kd.V_alloc | apply Kd.V_drewN | apply Kd.V_drew)); exact Kd.V_mono HO_344001.out (fun _ hk => ⟨hk.2, ⟨hk.1.1, ⟨hk.1.2.1, ⟨hk.1.2.2.1, hk.1.2.2.2⟩⟩⟩⟩)⟩, ⟨by (with_reducible repeat (first | apply Kd.V_alloc | apply Kd.V_drewN | apply Kd.V_drew)); exact Kd.V_mono HO357.out (fun _ hk => ⟨hk.2, ⟨hk.1.1, ⟨hk.1.2.1, ⟨hk.1.2.2.1, hk.1.2.2.2⟩⟩⟩⟩)⟩, ⟨by (with_reducible repeat (first | apply Kd.V_alloc | apply Kd.V_drewN | apply Kd.V_drew)); exact Kd.V_mono HO361.out (fun _ hk => ⟨hk.2, ⟨hk.1.1, ⟨hk.1.2.1, ⟨hk.1.2.2.1, hk.1.2.2.2⟩⟩⟩⟩)⟩, ⟨by (with_reducible repeat (first | refine blk_drewN ?_ _ | refine blk_drew ?_ | refine blk_alloc ?_ _)); exact BK338.out⟩, ⟨by (with_reducible repeat (first | refine blk_drewN ?_ _ | refine blk_drew ?_ | refine blk_alloc ?_ _)); exact BK343.out⟩, ⟨by (with_reducible repeat (first | refine blk_drewN ?_ _ | refine blk_drew ?_ | refine blk_alloc ?_ _)); exact BK362.out⟩, ⟨by (with_reducible repeat (first | refine blk_drewN ?_ _ | refine blk_drew ?_ | refine blk_alloc ?_ _)); exact BK363.out⟩, ⟨by repeat (first | (with_reducible first | exact HB.out | apply below_alloc | apply pw_below_drewN | apply below_drew1 | refine below_set ?_ GE338.out | refine below_set ?_ GE343.out | refine below_set ?_ GE362.out | refine below_set ?_ GE363.out) | exact HB.out)⟩⟩
     case round =>
      clear H'
      try clear c1
      try clear c2
      try clear p2
      try clear p6
      try clear c13
      try clear c25
      try clear c26
      obtain ⟨x10_2, x47_2, rfl, HA, HK2, HO_10, HO_339001, HO_344001, HO_363001, HO_364001, BK338, BK343, BK362, BK363, HB⟩ := hrel
      have hl10_2 := (Kd.R_reads' HO_10.out).1
      rw [hl10_2] at HO_10
      (try simp only [hl10_2])
      (try simp only [hl10_2] at BK338)
      (try simp only [hl10_2] at BK343)
      (try simp only [hl10_2] at BK362)
      (try simp only [hl10_2] at BK363)
      (try simp only [hl10_2] at HO_339001)
      (try simp only [hl10_2] at HO_344001)
      (try simp only [hl10_2] at HO_363001)
      (try simp only [hl10_2] at HO_364001)
      cases gk with
      | zero => exact absurd HA.out (by simp [spec_ToWords.l0])
      | succ k2 =>
       have H := HA.out
       clear HA
       simp only [spec_ToWords.l0] at H
       by_cases c57 : x47_2 < (y372.length : Int)
       ·rw [if_pos c57] at H
        have c57b0 : decide (x47_2 < (y372.length : Int)) = true := decide_eq_true c57
        rw [hl10_2] at c57b0
        clear c57
        have H' := Aside0.mk H
        clear H
        go_wp2
        go_loopg [12] k2 (fun kq v12 w' => ∃ (x10_3 : List Int) (x12_3 : Int), v12 = .int .i64 x12_3 ∧ Aside0 (spec_ToWords.l1 kq x7_3 x10_3 x47_2 x12_3 (y372.length : Int) x47_2 t368 t369 = some (r1, r2)) ∧ Aside0 (kq ≤ k2) ∧ Aside0 (Kd.R (Kd.int .u64) 30 w' w.heap.size (fun _ => True) (.slice Ao56 x10_2.length co56) x10_3) ∧ Aside0 (Kd.V (Kd.int .u32) 22 w' w.heap.size (fun k_ => some k_ ≠ ((.slice Ao56 x10_2.length co56) : Value).ownBlock ∧ k_ ≠ gb338 ∧ k_ ≠ gb343 ∧ k_ ≠ gb362 ∧ k_ ≠ gb363) (.slice Ao52 t369.length co52) t369) ∧ Aside0 (Kd.V (Kd.int .u32) 22 w' w.heap.size (fun k_ => some k_ ≠ ((.slice Ao56 x10_2.length co56) : Value).ownBlock ∧ k_ ≠ gb338 ∧ k_ ≠ gb343 ∧ k_ ≠ gb362 ∧ k_ ≠ gb363) (.slice Ao10 t340.length co10) t340) ∧ Aside0 (Kd.V (Kd.int .u32) 22 w' w.heap.size (fun k_ => some k_ ≠ ((.slice Ao56 x10_2.length co56) : Value).ownBlock ∧ k_ ≠ gb338 ∧ k_ ≠ gb343 ∧ k_ ≠ gb362 ∧ k_ ≠ gb363) (.slice Ao41 t355.length co41) t355) ∧ Aside0 (Kd.V (Kd.int .u32) 22 w' w.heap.size (fun k_ => some k_ ≠ ((.slice Ao56 x10_2.length co56) : Value).ownBlock ∧ k_ ≠ gb338 ∧ k_ ≠ gb343 ∧ k_ ≠ gb362 ∧ k_ ≠ gb363) (.slice Ao44 t359.length co44) t359) ∧ Aside0 (w'.heap[gb338]? = some (.cells #[.bool t368, (.slice Ao52 t369.length co52)] 27 (0, 0))) ∧ Aside0 (w'.heap[gb343]? = some (.cells #[.bool t339, (.slice Ao10 t340.length co10)] 27 (0, 0))) ∧ Aside0 (w'.heap[gb362]? = some (.cells #[.bool t354, (.slice Ao41 t355.length co41)] 27 (0, 0))) ∧ Aside0 (w'.heap[gb363]? = some (.cells #[.bool t358, (.slice Ao44 t359.length co44)] 27 (0, 0))) ∧ Aside0 (Below w.heap.size w w'))
        case atStart => exact ⟨(x10_2), (0), (by first | rfl | (simp; done) | (simp [*]; done)), H', ⟨Nat.le_refl _⟩, ⟨by (try simp only [hl10_2]); (with_reducible repeat (first | apply Kd.R_alloc | apply Kd.R_drewN | apply Kd.R_drew)); exact HO_10.out⟩, ⟨by (try simp only [hl10_2]); (with_reducible repeat (first | apply Kd.V_alloc | apply Kd.V_drewN | apply Kd.V_drew)); exact HO_339001.out⟩, ⟨by (try simp only [hl10_2]); (with_reducible repeat (first | apply Kd.V_alloc | apply Kd.V_drewN | apply Kd.V_drew)); exact HO_344001.out⟩, ⟨by (try simp only [hl10_2]); (with_reducible repeat (first | apply Kd.V_alloc | apply Kd.V_drewN | apply Kd.V_drew)); exact HO_363001.out⟩, ⟨by (try simp only [hl10_2]); (with_reducible repeat (first | apply Kd.V_alloc | apply Kd.V_drewN | apply Kd.V_drew)); exact HO_364001.out⟩, ⟨by (try simp only [hl10_2]); (with_reducible repeat (first | refine blk_drewN ?_ _ | refine blk_drew ?_ | refine blk_alloc ?_ _)); exact BK338.out⟩, ⟨by (try simp only [hl10_2]); (with_reducible repeat (first | refine blk_drewN ?_ _ | refine blk_drew ?_ | refine blk_alloc ?_ _)); exact BK343.out⟩, ⟨by (try simp only [hl10_2]); (with_reducible repeat (first | refine blk_drewN ?_ _ | refine blk_drew ?_ | refine blk_alloc ?_ _)); exact BK362.out⟩, ⟨by (try simp only [hl10_2]); (with_reducible repeat (first | refine blk_drewN ?_ _ | refine blk_drew ?_ | refine blk_alloc ?_ _)); exact BK363.out⟩, ⟨by repeat (first | (with_reducible first | exact HB.out | apply below_alloc | apply pw_below_drewN | apply below_drew1 | refine below_set ?_ GE338.out | refine below_set ?_ GE343.out | refine below_set ?_ GE362.out | refine below_set ?_ GE363.out) | exact HB.out)⟩⟩
        case round =>
         clear H'
         try clear c1
         try clear c2
         try clear p2
         try clear c5
         try clear p6
         try clear c13
         try clear c25
         try clear c26
         try clear c57
         try clear c57b0
         try clear p2
         try clear p6
         obtain ⟨x10_3, x12_3, rfl, HA, HK3, HO_10, HO_339001, HO_344001, HO_363001, HO_364001, BK338, BK343, BK362, BK363, HB⟩ := hrel
         have hl10_3 := (Kd.R_reads' HO_10.out).1
         rw [hl10_3] at HO_10
         (try simp only [hl10_3])
         (try simp only [hl10_3] at BK338)
         (try simp only [hl10_3] at BK343)
         (try simp only [hl10_3] at BK362)
         (try simp only [hl10_3] at BK363)
         (try simp only [hl10_3] at HO_339001)
         (try simp only [hl10_3] at HO_344001)
         (try simp only [hl10_3] at HO_363001)
         (try simp only [hl10_3] at HO_364001)
         cases gk with
         | zero => exact absurd HA.out (by simp [spec_ToWords.l1])
         | succ k3 =>
          have H := HA.out
          clear HA
          simp only [spec_ToWords.l1] at H
          by_cases c58 : x12_3 < 2
          ·rw [if_pos c58] at H
           have c58b0 : decide (x12_3 < 2) = true := decide_eq_true c58
           clear c58
           by_cases c59 : (wrap64 ((wrap64 (2 * x47_2)) + x12_3)) < (t369.length : Int)
           ·rw [if_pos c59] at H
            have c59b0 : decide ((wrap64 ((wrap64 (2 * x47_2)) + x12_3)) < (t369.length : Int)) = true := decide_eq_true c59
            clear c59
            by_cases c60 : 0 ≤ x47_2
            ·rw [if_pos c60] at H
             have c60b0 : decide (0 ≤ x47_2) = true := decide_eq_true c60
             clear c60
             by_cases c61 : x47_2 < (x10_3.length : Int)
             ·rw [if_pos c61] at H
              have c61b0 : decide (x47_2 < (x10_3.length : Int)) = true := decide_eq_true c61
              clear c61
              obtain ⟨ji62, hji62⟩ : ∃ j_ : Int, (wrap64 ((wrap64 (2 * x47_2)) + x12_3)) = j_ := ⟨_, rfl⟩
              replace H : (if 0 ≤ (ji62) then (if 0 ≤ (wrap64 (32 * x12_3)) then (spec_ToWords.l1 k3 x7_3 (x10_3.set (x47_2 : Int).toNat (Go.bits .or .u64 (rd x10_3 x47_2) (shl .u64 (IntKind.u64.wrap (rd t369 (ji62))) (wrap64 (32 * x12_3))))) x47_2 (wrap64 (x12_3 + 1)) (y372.length : Int) x47_2 t368 t369) else (none)) else (none)) = some (r1, r2) := by first | (rw [hji62] at H; exact H) | (simp only [hji62] at H ⊢; exact H)
              (try rw [hji62] at c59b0)
              have hji62w : (IntKind.i64.wrap ((wrap64 (2 * x47_2)) + x12_3)) = ji62 := (i64_w _).trans hji62
              by_cases c63 : 0 ≤ (ji62)
              ·rw [if_pos c63] at H
               have c63b0 : decide (0 ≤ (ji62)) = true := decide_eq_true c63
               clear c63
               obtain ⟨ji64, hji64⟩ : ∃ j_ : Int, (wrap64 (32 * x12_3)) = j_ := ⟨_, rfl⟩
               replace H : (if 0 ≤ (ji64) then (spec_ToWords.l1 k3 x7_3 (x10_3.set (x47_2 : Int).toNat (Go.bits .or .u64 (rd x10_3 x47_2) (shl .u64 (IntKind.u64.wrap (rd t369 (ji62))) (ji64)))) x47_2 (wrap64 (x12_3 + 1)) (y372.length : Int) x47_2 t368 t369) else (none)) = some (r1, r2) := by first | (rw [hji64] at H; exact H) | (simp only [hji64] at H ⊢; exact H)
               have hji64w : (IntKind.i64.wrap (32 * x12_3)) = ji64 := (i64_w _).trans hji64
               by_cases c65 : 0 ≤ (ji64)
               ·rw [if_pos c65] at H
                have c65b0 := eq_true c65
                have c65b1 : decide (0 ≤ (ji64)) = true := decide_eq_true c65
                clear c65
                obtain ⟨ji66, hji66⟩ : ∃ j_ : Int, (shl .u64 (IntKind.u64.wrap (rd t369 (ji62))) (ji64)) = j_ := ⟨_, rfl⟩
                replace H : (spec_ToWords.l1 k3 x7_3 (x10_3.set (x47_2 : Int).toNat (Go.bits .or .u64 (rd x10_3 x47_2) (ji66))) x47_2 (wrap64 (x12_3 + 1)) (y372.length : Int) x47_2 t368 t369) = some (r1, r2) := by first | (rw [hji66] at H; exact H) | (simp only [hji66] at H ⊢; exact H)
                have hji66_ : (IntKind.u64.wrap ((IntKind.u64.wrap (rd t369 (ji62))) * 2 ^ min (ji64).toNat 64)) = ji66 := hji66
                have hji66z : (ji64) ≤ 64 → (IntKind.u64.wrap ((IntKind.u64.wrap (rd t369 (ji62))) * 2 ^ (ji64).toNat)) = ji66 := shl_small hji66
                obtain ⟨y377, hy377⟩ : ∃ y_ : List Int, y_ = (x10_3.set (x47_2 : Int).toNat (Go.bits .or .u64 (rd x10_3 x47_2) (ji66))) := ⟨_, rfl⟩
                replace H : (spec_ToWords.l1 k3 x7_3 y377 x47_2 (wrap64 (x12_3 + 1)) (y372.length : Int) x47_2 t368 t369) = some (r1, r2) := by first | (rw [hy377]; with_reducible exact H) | (have H2_ := (Option.bind_some _ _).symm.trans H; rw [hy377]; with_reducible exact H2_) | (have H2_ := (Option.bind_some _ _).symm.trans H; with_reducible exact H2_) | with_reducible exact H | (rw [hy377]; exact H) | exact H
                have Ny377 := Aside0.mk hy377
                clear hy377
                have H' := Aside0.mk H
                clear H
                have hnb68 := NB338_343.out
                have hnc68 := NB343_338.out
                have hnb69 := NB338_362.out
                have hnc69 := NB362_338.out
                have hnb70 := NB338_363.out
                have hnc70 := NB363_338.out
                have hcz71_0 : wr.cell? ⟨gb338, 0, none⟩ = some (.bool t368) := (blk_cell BK338.out 0).trans rfl
                have hcz71_1 : wr.cell? ⟨gb338, 1, none⟩ = some (.slice Ao52 t369.length co52) := (blk_cell BK338.out 1).trans rfl
                have hfz71_0 := blk_frozen BK338.out 0
                have hfz71_1 := blk_frozen BK338.out 1
                try go_wp2
                have n0_ := Aside0.mk (Kd.R_drew HO_10.out)
                have n1_ := Aside0.mk (Kd.V_drew HO_339001.out)
                have n2_ := Aside0.mk (Kd.V_drew HO_344001.out)
                have n3_ := Aside0.mk (Kd.V_drew HO_363001.out)
                have n4_ := Aside0.mk (Kd.V_drew HO_364001.out)
                have n5_ := Aside0.mk (blk_drew BK338.out)
                have n6_ := Aside0.mk (blk_drew BK343.out)
                have n7_ := Aside0.mk (blk_drew BK362.out)
                have n8_ := Aside0.mk (blk_drew BK363.out)
                have n9_ := Aside0.mk (below_drew1 HB.out)
                clear HO_10 HO_339001 HO_344001 HO_363001 HO_364001 BK338 BK343 BK362 BK363 HB
                have HO_10 := n0_
                have HO_339001 := n1_
                have HO_344001 := n2_
                have HO_363001 := n3_
                have HO_364001 := n4_
                have BK338 := n5_
                have BK343 := n6_
                have BK362 := n7_
                have BK363 := n8_
                have HB := n9_
                clear n0_ n1_ n2_ n3_ n4_ n5_ n6_ n7_ n8_ n9_
                have p375 : 0 ≤ (x47_2 : Int) := of_decide_eq_true (by first | (with_reducible assumption) | assumption)
                have q375 : x47_2 < (x10_3.length : Int) := of_decide_eq_true (by first | (with_reducible assumption) | assumption)
                obtain ⟨ad375, e375, hx375_0⟩ := Kd.at_int (Kd.R_reads' HO_10.out).2.2 x47_2 p375 q375
                cases e375
                replace p375 := eq_true p375
                replace q375 := eq_true q375
                have p376 : 0 ≤ ((ji62) : Int) := of_decide_eq_true (by first | (with_reducible assumption) | assumption)
                have q376 : (ji62) < (t369.length : Int) := of_decide_eq_true (by first | (with_reducible assumption) | assumption)
                obtain ⟨ad376, e376, hx376_0⟩ := Kd.at_int (Kd.V_reads' HO_339001.out).2.2 (ji62) p376 q376
                cases e376
                replace p376 := eq_true p376
                replace q376 := eq_true q376
                have p67 : 0 ≤ (x47_2 : Int) := of_decide_eq_true (by first | (with_reducible assumption) | assumption)
                have q67 : (x47_2 : Int) < ((x10_3.length : Int) : Int) := of_decide_eq_true (by first | (with_reducible assumption) | assumption)
                obtain ⟨go67, co67, eo67, gb67, gl67, cl67, HG67⟩ := Kd.R_form HO_10.out (by omega)
                (first | cases eo67 | (injection eo67 with ea_ en_ ec_; (first | subst ea_ | (injection ea_ with ea_; subst ea_)); subst ec_; clear en_))
                have GB67 := Aside0.mk gb67
                have GG67 := Aside0.mk HG67
                clear gb67 gl67 HG67
                (first | simp only [add_plain] at hx375_0 | skip)
                obtain ⟨hx67_0, hf67_0⟩ := Kd.R_celln 0 HO_10.out (x47_2 : Int) p67 q67
                replace p67 := eq_true p67
                replace q67 := eq_true q67
                have HP73 := Kd.R_putn HO_10.out (x47_2 : Int) (Go.bits .or .u64 (rd x10_3 x47_2) (ji66))
                rw [← Ny377.out] at HP73
                have HQ73 := Aside0.mk HP73
                clear HP73
                refine start_ (n := 19) (S := fun w' => w'.cell? ⟨gb338, 0, none⟩ = some (.bool t368) ∧ w'.cell? ⟨gb338, 1, none⟩ = some (.slice (some ad376) t369.length co52) ∧ w'.cell? ⟨go67, (x47_2).toNat, none⟩ = some (.int .u64 (rd x10_3 x47_2)) ∧ w'.cell? (ad376.add ((ji62)).toNat) = some (.int .u32 (rd t369 (ji62)))) (ds := [18]) #[false, false, false, false, false, false, false, false, false, false, false, false, false, false, false, false, false, false, false] (by kernel_rfl) rfl rfl ⟨(blk_cell BK338.out 0).trans rfl, (blk_cell BK338.out 1).trans rfl, hx375_0, hx376_0⟩ (fun hHeld => ?_); refine with_tabW spec_ToWords.tab14 spec_ToWords.bits14 (fun HT_ HW_ => ?_)
                generalize wr.drew = w72 at HO_10 HO_339001 HO_344001 HO_363001 HO_364001 BK338 BK343 BK362 BK363 HB GG67 HQ73 hf67_0 hx375_0 hx376_0 hx67_0 hHeld ⊢
                refine pure_ (i := 0) (N := some 62) (v := ?_) (a' := ?_) #[true, false, false, false, false, false, false, false, false, false, false, false, false, false, false, false, false, false, false] rfl rfl (any_of HT_.out (by kernel_rfl)) (fun _ _ _ h => h) (Or.inl ⟨by rfl, ?_⟩) ?_ ?_
                rotate_left
                ·intro w'
                 go_simp
                 with_reducible rfl
                rotate_left
                ·simp only [Act.put, List.setIfInBounds_toArray, List.set_cons_zero, List.set_cons_succ, i64_w, i32_w]
                 rfl
                refine pure_ (i := 1) (N := some 63) (v := ?_) (a' := ?_) #[true, true, false, false, false, false, false, false, false, false, false, false, false, false, false, false, false, false, false] rfl rfl (any_of HT_.out (by kernel_rfl)) (fun _ _ _ h => h) (Or.inl ⟨by rfl, ?_⟩) ?_ ?_
                rotate_left
                ·intro w'
                 go_simp
                 with_reducible rfl
                rotate_left
                ·simp only [Act.put, List.setIfInBounds_toArray, List.set_cons_zero, List.set_cons_succ, i64_w, i32_w]
                 rfl
                refine pure_ (i := 2) (N := some 64) (v := ?_) (a' := ?_) #[true, true, true, false, false, false, false, false, false, false, false, false, false, false, false, false, false, false, false] rfl rfl (any_of HT_.out (by kernel_rfl)) (fun _ _ _ h => h) (Or.inl ⟨by rfl, ?_⟩) ?_ ?_
                rotate_left
                ·intro w'
                 go_simp
                 with_reducible rfl
                rotate_left
                ·simp only [Act.put, List.setIfInBounds_toArray, List.set_cons_zero, List.set_cons_succ, i64_w, i32_w]
                 rfl
                refine pure_ (i := 4) (N := some 66) (v := ?_) (a' := ?_) #[true, true, true, false, true, false, false, false, false, false, false, false, false, false, false, false, false, false, false] rfl rfl (any_of HT_.out (by kernel_rfl)) (fun _ _ _ h => h) (Or.inl ⟨by rfl, ?_⟩) ?_ ?_
                rotate_left
                ·intro w'
                 go_simp
                 with_reducible rfl
                rotate_left
                ·simp only [Act.put, List.setIfInBounds_toArray, List.set_cons_zero, List.set_cons_succ, i64_w, i32_w]
                 rfl
                refine pure_ (i := 6) (N := some 68) (v := ?_) (a' := ?_) #[true, true, true, false, true, false, true, false, false, false, false, false, false, false, false, false, false, false, false] rfl rfl (any_of HT_.out (by kernel_rfl)) (fun _ _ _ h => h) (Or.inl ⟨by rfl, ?_⟩) ?_ ?_
                rotate_left
                ·intro w'
                 go_simp
                 with_reducible rfl
                rotate_left
                ·simp only [Act.put, List.setIfInBounds_toArray, List.set_cons_zero, List.set_cons_succ, i64_w, i32_w]
                 rfl
                refine pure_ (i := 7) (N := some 69) (v := ?_) (a' := ?_) #[true, true, true, false, true, false, true, true, false, false, false, false, false, false, false, false, false, false, false] rfl rfl (any_of HT_.out (by kernel_rfl)) (fun _ _ _ h => h) (Or.inl ⟨by rfl, ?_⟩) ?_ ?_
                rotate_left
                ·intro w'
                 go_simp
                 with_reducible rfl
                rotate_left
                ·simp only [Act.put, List.setIfInBounds_toArray, List.set_cons_zero, List.set_cons_succ, i64_w, i32_w]
                 rfl
                refine pure_ (i := 8) (N := some 70) (v := ?_) (a' := ?_) #[true, true, true, false, true, false, true, true, true, false, false, false, false, false, false, false, false, false, false] rfl rfl (any_of HT_.out (by kernel_rfl)) (fun _ _ _ h => h) (Or.inl ⟨by rfl, ?_⟩) ?_ ?_
                rotate_left
                ·intro w'
                 go_simp
                 with_reducible rfl
                rotate_left
                ·simp only [Act.put, List.setIfInBounds_toArray, List.set_cons_zero, List.set_cons_succ, i64_w, i32_w]
                 rfl
                refine pure_ (i := 9) (N := some 71) (v := ?_) (a' := ?_) #[true, true, true, false, true, false, true, true, true, true, false, false, false, false, false, false, false, false, false] rfl rfl (any_of HT_.out (by kernel_rfl)) (fun _ _ _ h => h) (Or.inl ⟨by rfl, ?_⟩) ?_ ?_
                rotate_left
                ·intro w'
                 go_simp
                 with_reducible rfl
                rotate_left
                ·simp only [Act.put, List.setIfInBounds_toArray, List.set_cons_zero, List.set_cons_succ, i64_w, i32_w]
                 rfl
                refine pure_ (i := 13) (N := some 75) (v := ?_) (a' := ?_) #[true, true, true, false, true, false, true, true, true, true, false, false, false, true, false, false, false, false, false] rfl rfl (any_of HT_.out (by kernel_rfl)) (fun _ _ _ h => h) (Or.inl ⟨by rfl, ?_⟩) ?_ ?_
                rotate_left
                ·intro w'
                 go_simp
                 with_reducible rfl
                rotate_left
                ·simp only [Act.put, List.setIfInBounds_toArray, List.set_cons_zero, List.set_cons_succ, i64_w, i32_w]
                 rfl
                refine pure_ (i := 14) (N := some 76) (v := ?_) (a' := ?_) #[true, true, true, false, true, false, true, true, true, true, false, false, false, true, true, false, false, false, false] rfl rfl (any_of HT_.out (by kernel_rfl)) (fun _ _ _ h => h) (Or.inl ⟨by rfl, ?_⟩) ?_ ?_
                rotate_left
                ·intro w'
                 go_simp
                 with_reducible rfl
                rotate_left
                ·simp only [Act.put, List.setIfInBounds_toArray, List.set_cons_zero, List.set_cons_succ, i64_w, i32_w]
                 rfl
                refine take_ (i := 3) (N := some 65) (v := ?_) (a' := ?_) #[true, true, true, true, true, false, true, true, true, true, false, false, false, true, true, false, false, false, false] rfl rfl (take_ofW HT_.out HW_.out (by kernel_rfl)) (fun _ _ _ h => h) (Or.inl ⟨by rfl, ?_⟩) hHeld ?_ ?_
                rotate_left
                ·rintro w' ⟨s0, s1, s2, s3⟩
                 go_simp
                 with_reducible rfl
                rotate_left
                ·simp only [Act.put, List.setIfInBounds_toArray, List.set_cons_zero, List.set_cons_succ, i64_w, i32_w]
                 rfl
                refine take_ (i := 5) (N := some 67) (v := ?_) (a' := ?_) #[true, true, true, true, true, true, true, true, true, true, false, false, false, true, true, false, false, false, false] rfl rfl (take_ofW HT_.out HW_.out (by kernel_rfl)) (fun _ _ _ h => h) (Or.inl ⟨by rfl, ?_⟩) hHeld ?_ ?_
                rotate_left
                ·rintro w' ⟨s0, s1, s2, s3⟩
                 go_simp
                 with_reducible rfl
                rotate_left
                ·simp only [Act.put, List.setIfInBounds_toArray, List.set_cons_zero, List.set_cons_succ, i64_w, i32_w]
                 rfl
                refine pure_ (i := 10) (N := some 72) (v := ?_) (a' := ?_) #[true, true, true, true, true, true, true, true, true, true, true, false, false, true, true, false, false, false, false] rfl rfl (any_of HT_.out (by kernel_rfl)) (fun _ _ _ h => h) (Or.inl ⟨by rfl, ?_⟩) ?_ ?_
                rotate_left
                ·intro w'
                 go_simp
                 with_reducible rfl
                rotate_left
                ·simp only [Act.put, List.setIfInBounds_toArray, List.set_cons_zero, List.set_cons_succ, i64_w, i32_w]
                 rfl
                refine take_ (i := 11) (N := some 73) (v := ?_) (a' := ?_) #[true, true, true, true, true, true, true, true, true, true, true, true, false, true, true, false, false, false, false] rfl rfl (take_ofW HT_.out HW_.out (by kernel_rfl)) (fun _ _ _ h => h) (Or.inl ⟨by rfl, ?_⟩) hHeld ?_ ?_
                rotate_left
                ·rintro w' ⟨s0, s1, s2, s3⟩
                 go_simp
                 with_reducible rfl
                rotate_left
                ·simp only [Act.put, List.setIfInBounds_toArray, List.set_cons_zero, List.set_cons_succ, i64_w, i32_w]
                 rfl
                refine pure_ (i := 12) (N := some 74) (v := ?_) (a' := ?_) #[true, true, true, true, true, true, true, true, true, true, true, true, true, true, true, false, false, false, false] rfl rfl (any_of HT_.out (by kernel_rfl)) (fun _ _ _ h => h) (Or.inl ⟨by rfl, ?_⟩) ?_ ?_
                rotate_left
                ·intro w'
                 go_simp
                 with_reducible rfl
                rotate_left
                ·simp only [Act.put, List.setIfInBounds_toArray, List.set_cons_zero, List.set_cons_succ, i64_w, i32_w]
                 rfl
                refine pure_ (i := 15) (N := some 77) (v := ?_) (a' := ?_) #[true, true, true, true, true, true, true, true, true, true, true, true, true, true, true, true, false, false, false] rfl rfl (any_of HT_.out (by kernel_rfl)) (fun _ _ _ h => h) (Or.inl ⟨by rfl, ?_⟩) ?_ ?_
                rotate_left
                ·intro w'
                 go_simp
                 with_reducible rfl
                rotate_left
                ·simp only [Act.put, List.setIfInBounds_toArray, List.set_cons_zero, List.set_cons_succ, i64_w, i32_w]
                 rfl
                refine pure_ (i := 16) (N := some 78) (v := ?_) (a' := ?_) #[true, true, true, true, true, true, true, true, true, true, true, true, true, true, true, true, true, false, false] rfl rfl (any_of HT_.out (by kernel_rfl)) (fun _ _ _ h => h) (Or.inl ⟨by rfl, ?_⟩) ?_ ?_
                rotate_left
                ·intro w'
                 go_simp
                 with_reducible rfl
                rotate_left
                ·simp only [Act.put, List.setIfInBounds_toArray, List.set_cons_zero, List.set_cons_succ, i64_w, i32_w]
                 rfl
                refine pure_ (i := 17) (N := some 79) (v := ?_) (a' := ?_) #[true, true, true, true, true, true, true, true, true, true, true, true, true, true, true, true, true, true, false] rfl rfl (any_of HT_.out (by kernel_rfl)) (fun _ _ _ h => h) (Or.inl ⟨by rfl, ?_⟩) ?_ ?_
                rotate_left
                ·intro w'
                 go_simp
                 with_reducible rfl
                rotate_left
                ·simp only [Act.put, List.setIfInBounds_toArray, List.set_cons_zero, List.set_cons_succ, i64_w, i32_w]
                 rfl
                refine last_ (i := 18) (N := none) #[true, true, true, true, true, true, true, true, true, true, true, true, true, true, true, true, true, true, true] rfl rfl (one_of HT_.out (by kernel_rfl)) (by decide) (fun K hK => ?_)
                refine skip_ (w1 := ?_) (by rfl) rfl ?_ ?_
                rotate_left
                ·go_simp
                 rfl
                refine hK.out _ _ ?_
                clear hK K
                refine done_ (done_of HT_.out (by kernel_rfl)) ?_
                try go_wp2
                (try simp only [← hl10_3])
                go_roundg k3
                case measure => have := HJ3.out; have := HK2.out; have := HK3.out; omega
                case rel => exact ⟨(y377), (wrap64 (x12_3 + 1)), (by first | rfl | (simp; done) | (simp [*]; done)), H', ⟨by have := HJ3.out; have := HK2.out; have := HK3.out; omega⟩, ⟨by (try simp only [hl10_2]); (try simp only [hl10_3]); (with_reducible repeat (first | apply Kd.R_alloc | apply Kd.R_drewN | apply Kd.R_drew)); exact HQ73.out⟩, ⟨by (try simp only [hl10_2]); (try simp only [hl10_3]); (with_reducible repeat (first | apply Kd.V_alloc | apply Kd.V_drewN | apply Kd.V_drew)); exact Kd.V_mono (Kd.V_far (p := ⟨go67, (x47_2 : Int).toNat, none⟩) (Kd.V_mono HO_339001.out (fun k_ hk => (⟨hk, fun e_ => hk.1 (by rw [e_]; rfl)⟩ : _ ∧ k_ ≠ go67))) (fun _ hk => hk.2) (.int .u64 (Go.bits .or .u64 (rd x10_3 x47_2) (ji66)))) (fun _ hk => ⟨hk.1.1, ⟨hk.1.2.1, ⟨hk.1.2.2.1, ⟨hk.1.2.2.2.1, hk.1.2.2.2.2⟩⟩⟩⟩)⟩, ⟨by (try simp only [hl10_2]); (try simp only [hl10_3]); (with_reducible repeat (first | apply Kd.V_alloc | apply Kd.V_drewN | apply Kd.V_drew)); exact Kd.V_mono (Kd.V_far (p := ⟨go67, (x47_2 : Int).toNat, none⟩) (Kd.V_mono HO_344001.out (fun k_ hk => (⟨hk, fun e_ => hk.1 (by rw [e_]; rfl)⟩ : _ ∧ k_ ≠ go67))) (fun _ hk => hk.2) (.int .u64 (Go.bits .or .u64 (rd x10_3 x47_2) (ji66)))) (fun _ hk => ⟨hk.1.1, ⟨hk.1.2.1, ⟨hk.1.2.2.1, ⟨hk.1.2.2.2.1, hk.1.2.2.2.2⟩⟩⟩⟩)⟩, ⟨by (try simp only [hl10_2]); (try simp only [hl10_3]); (with_reducible repeat (first | apply Kd.V_alloc | apply Kd.V_drewN | apply Kd.V_drew)); exact Kd.V_mono (Kd.V_far (p := ⟨go67, (x47_2 : Int).toNat, none⟩) (Kd.V_mono HO_363001.out (fun k_ hk => (⟨hk, fun e_ => hk.1 (by rw [e_]; rfl)⟩ : _ ∧ k_ ≠ go67))) (fun _ hk => hk.2) (.int .u64 (Go.bits .or .u64 (rd x10_3 x47_2) (ji66)))) (fun _ hk => ⟨hk.1.1, ⟨hk.1.2.1, ⟨hk.1.2.2.1, ⟨hk.1.2.2.2.1, hk.1.2.2.2.2⟩⟩⟩⟩)⟩, ⟨by (try simp only [hl10_2]); (try simp only [hl10_3]); (with_reducible repeat (first | apply Kd.V_alloc | apply Kd.V_drewN | apply Kd.V_drew)); exact Kd.V_mono (Kd.V_far (p := ⟨go67, (x47_2 : Int).toNat, none⟩) (Kd.V_mono HO_364001.out (fun k_ hk => (⟨hk, fun e_ => hk.1 (by rw [e_]; rfl)⟩ : _ ∧ k_ ≠ go67))) (fun _ hk => hk.2) (.int .u64 (Go.bits .or .u64 (rd x10_3 x47_2) (ji66)))) (fun _ hk => ⟨hk.1.1, ⟨hk.1.2.1, ⟨hk.1.2.2.1, ⟨hk.1.2.2.2.1, hk.1.2.2.2.2⟩⟩⟩⟩)⟩, ⟨by (try simp only [hl10_2]); (try simp only [hl10_3]); (with_reducible repeat (first | refine blk_drewN ?_ _ | refine blk_drew ?_ | refine blk_alloc ?_ _)); refine blk_far ?_ (by have h_ := Kd.R_ne HO_10.out BK338.out (by decide); intro e_; exact h_ (by rw [e_]; rfl)) _; (with_reducible repeat (first | refine blk_drewN ?_ _ | refine blk_drew ?_ | refine blk_alloc ?_ _)); exact BK338.out⟩, ⟨by (try simp only [hl10_2]); (try simp only [hl10_3]); (with_reducible repeat (first | refine blk_drewN ?_ _ | refine blk_drew ?_ | refine blk_alloc ?_ _)); refine blk_far ?_ (by have h_ := Kd.R_ne HO_10.out BK343.out (by decide); intro e_; exact h_ (by rw [e_]; rfl)) _; (with_reducible repeat (first | refine blk_drewN ?_ _ | refine blk_drew ?_ | refine blk_alloc ?_ _)); exact BK343.out⟩, ⟨by (try simp only [hl10_2]); (try simp only [hl10_3]); (with_reducible repeat (first | refine blk_drewN ?_ _ | refine blk_drew ?_ | refine blk_alloc ?_ _)); refine blk_far ?_ (by have h_ := Kd.R_ne HO_10.out BK362.out (by decide); intro e_; exact h_ (by rw [e_]; rfl)) _; (with_reducible repeat (first | refine blk_drewN ?_ _ | refine blk_drew ?_ | refine blk_alloc ?_ _)); exact BK362.out⟩, ⟨by (try simp only [hl10_2]); (try simp only [hl10_3]); (with_reducible repeat (first | refine blk_drewN ?_ _ | refine blk_drew ?_ | refine blk_alloc ?_ _)); refine blk_far ?_ (by have h_ := Kd.R_ne HO_10.out BK363.out (by decide); intro e_; exact h_ (by rw [e_]; rfl)) _; (with_reducible repeat (first | refine blk_drewN ?_ _ | refine blk_drew ?_ | refine blk_alloc ?_ _)); exact BK363.out⟩, ⟨by repeat (first | (with_reducible first | exact HB.out | apply below_alloc | apply pw_below_drewN | apply below_drew1 | refine below_set ?_ GB67.out | refine below_set ?_ GE338.out | refine below_set ?_ GE343.out | refine below_set ?_ GE362.out | refine below_set ?_ GE363.out) | exact HB.out)⟩⟩
               ·rw [if_neg c65] at H
                exact absurd H (by simp)
              ·rw [if_neg c63] at H
               exact absurd H (by simp)
             ·rw [if_neg c61] at H
              exact absurd H (by simp)
            ·rw [if_neg c60] at H
             exact absurd H (by simp)
           ·rw [if_neg c59] at H
            have c59b0 : decide ((wrap64 ((wrap64 (2 * x47_2)) + x12_3)) < (t369.length : Int)) = false := decide_eq_false c59
            clear c59
            have H' := Aside0.mk H
            clear H
            have hnb74 := NB338_343.out
            have hnc74 := NB343_338.out
            have hnb75 := NB338_362.out
            have hnc75 := NB362_338.out
            have hnb76 := NB338_363.out
            have hnc76 := NB363_338.out
            have hcz77_0 : wr.cell? ⟨gb338, 0, none⟩ = some (.bool t368) := (blk_cell BK338.out 0).trans rfl
            have hcz77_1 : wr.cell? ⟨gb338, 1, none⟩ = some (.slice Ao52 t369.length co52) := (blk_cell BK338.out 1).trans rfl
            have hfz77_0 := blk_frozen BK338.out 0
            have hfz77_1 := blk_frozen BK338.out 1
            go_wp2
            (try simp only [← hl10_3])
            go_roundg k3
            case measure => have := HJ3.out; have := HK2.out; have := HK3.out; omega
            case rel => exact ⟨(x10_3), (wrap64 (x12_3 + 1)), (by first | rfl | (simp; done) | (simp [*]; done)), H', ⟨by have := HJ3.out; have := HK2.out; have := HK3.out; omega⟩, ⟨by (try simp only [hl10_2]); (try simp only [hl10_3]); (with_reducible repeat (first | apply Kd.R_alloc | apply Kd.R_drewN | apply Kd.R_drew)); exact HO_10.out⟩, ⟨by (try simp only [hl10_2]); (try simp only [hl10_3]); (with_reducible repeat (first | apply Kd.V_alloc | apply Kd.V_drewN | apply Kd.V_drew)); exact HO_339001.out⟩, ⟨by (try simp only [hl10_2]); (try simp only [hl10_3]); (with_reducible repeat (first | apply Kd.V_alloc | apply Kd.V_drewN | apply Kd.V_drew)); exact HO_344001.out⟩, ⟨by (try simp only [hl10_2]); (try simp only [hl10_3]); (with_reducible repeat (first | apply Kd.V_alloc | apply Kd.V_drewN | apply Kd.V_drew)); exact HO_363001.out⟩, ⟨by (try simp only [hl10_2]); (try simp only [hl10_3]); (with_reducible repeat (first | apply Kd.V_alloc | apply Kd.V_drewN | apply Kd.V_drew)); exact HO_364001.out⟩, ⟨by (try simp only [hl10_2]); (try simp only [hl10_3]); (with_reducible repeat (first | refine blk_drewN ?_ _ | refine blk_drew ?_ | refine blk_alloc ?_ _)); exact BK338.out⟩, ⟨by (try simp only [hl10_2]); (try simp only [hl10_3]); (with_reducible repeat (first | refine blk_drewN ?_ _ | refine blk_drew ?_ | refine blk_alloc ?_ _)); exact BK343.out⟩, ⟨by (try simp only [hl10_2]); (try simp only [hl10_3]); (with_reducible repeat (first | refine blk_drewN ?_ _ | refine blk_drew ?_ | refine blk_alloc ?_ _)); exact BK362.out⟩, ⟨by (try simp only [hl10_2]); (try simp only [hl10_3]); (with_reducible repeat (first | refine blk_drewN ?_ _ | refine blk_drew ?_ | refine blk_alloc ?_ _)); exact BK363.out⟩, ⟨by repeat (first | (with_reducible first | exact HB.out | apply below_alloc | apply pw_below_drewN | apply below_drew1 | refine below_set ?_ GE338.out | refine below_set ?_ GE343.out | refine below_set ?_ GE362.out | refine below_set ?_ GE363.out) | exact HB.out)⟩⟩
          ·rw [if_neg c58] at H
           have c58b0 : decide (x12_3 < 2) = false := decide_eq_false c58
           clear c58
           have H' := Aside0.mk H
           clear H
           go_wp2
           (try simp only [← hl10_2, ← hl10_3])
           go_roundg k3
           case measure => have := HJ3.out; have := HK2.out; have := HK3.out; omega
           case rel => exact ⟨(x10_3), (wrap64 (x47_2 + 1)), (by first | rfl | (simp; done) | (simp [*]; done)), H', ⟨by have := HJ3.out; have := HK2.out; have := HK3.out; omega⟩, ⟨by (try simp only [hl10_2]); (try simp only [hl10_3]); (with_reducible repeat (first | apply Kd.R_alloc | apply Kd.R_drewN | apply Kd.R_drew)); exact HO_10.out⟩, ⟨by (try simp only [hl10_2]); (try simp only [hl10_3]); (with_reducible repeat (first | apply Kd.V_alloc | apply Kd.V_drewN | apply Kd.V_drew)); exact HO_339001.out⟩, ⟨by (try simp only [hl10_2]); (try simp only [hl10_3]); (with_reducible repeat (first | apply Kd.V_alloc | apply Kd.V_drewN | apply Kd.V_drew)); exact HO_344001.out⟩, ⟨by (try simp only [hl10_2]); (try simp only [hl10_3]); (with_reducible repeat (first | apply Kd.V_alloc | apply Kd.V_drewN | apply Kd.V_drew)); exact HO_363001.out⟩, ⟨by (try simp only [hl10_2]); (try simp only [hl10_3]); (with_reducible repeat (first | apply Kd.V_alloc | apply Kd.V_drewN | apply Kd.V_drew)); exact HO_364001.out⟩, ⟨by (try simp only [hl10_2]); (try simp only [hl10_3]); (with_reducible repeat (first | refine blk_drewN ?_ _ | refine blk_drew ?_ | refine blk_alloc ?_ _)); exact BK338.out⟩, ⟨by (try simp only [hl10_2]); (try simp only [hl10_3]); (with_reducible repeat (first | refine blk_drewN ?_ _ | refine blk_drew ?_ | refine blk_alloc ?_ _)); exact BK343.out⟩, ⟨by (try simp only [hl10_2]); (try simp only [hl10_3]); (with_reducible repeat (first | refine blk_drewN ?_ _ | refine blk_drew ?_ | refine blk_alloc ?_ _)); exact BK362.out⟩, ⟨by (try simp only [hl10_2]); (try simp only [hl10_3]); (with_reducible repeat (first | refine blk_drewN ?_ _ | refine blk_drew ?_ | refine blk_alloc ?_ _)); exact BK363.out⟩, ⟨by repeat (first | (with_reducible first | exact HB.out | apply below_alloc | apply pw_below_drewN | apply below_drew1 | refine below_set ?_ GE338.out | refine below_set ?_ GE343.out | refine below_set ?_ GE362.out | refine below_set ?_ GE363.out) | exact HB.out)⟩⟩
       ·rw [if_neg c57] at H
        have c57b0 : decide (x47_2 < (y372.length : Int)) = false := decide_eq_false c57
        rw [hl10_2] at c57b0
        clear c57
        simp only [Option.some.injEq, Prod.mk.injEq] at H
        obtain ⟨rfl, rfl⟩ := H
        go_wp2
        go_ret2
        exact ⟨_, by first | rfl | (simp [errW_none, errW_some] <;> rfl) | (simp [*, errW_none, errW_some] <;> rfl), by (with_reducible repeat (first | apply Kd.R_alloc | apply Kd.R_drewN | apply Kd.R_drew)); exact HO_10.out, by repeat (first | (with_reducible first | exact HB.out | apply below_alloc | apply pw_below_drewN | apply below_drew1 | refine below_set ?_ GE338.out | refine below_set ?_ GE343.out | refine below_set ?_ GE362.out | refine below_set ?_ GE363.out) | exact HB.out)⟩
    ·rw [if_neg c30] at H
     exact absurd H (by simp)
   ·rw [if_neg c29] at H
    exact absurd H (by simp)
end Go.Proofs.YtgomeiepiajpeaaGreat.Q
