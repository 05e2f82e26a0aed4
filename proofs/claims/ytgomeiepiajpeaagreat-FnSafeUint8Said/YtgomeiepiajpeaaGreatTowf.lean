/- spec.ToWords, walked: a number whose sign is false. -/
import Derived.Test.YtgomeiepiajpeaaGreatTow0
namespace Go.Proofs.YtgomeiepiajpeaaGreat.Q
open Go.RowKit Go.Proofs.YtgomeiepiajpeaaGreatW.PrintWords Go.Proofs.YtgomeiepiajpeaaGreatW.PrintLast Go.Proofs.YtgomeiepiajpeaaGreatW.PrintMore
attribute [local go_sem] max2_int min2_int max_two min_two max_three min_three max_four min_four
set_option linter.unusedVariables false
set_option linter.unusedSimpArgs false

set_option maxHeartbeats 8000000 in
set_option maxRecDepth 100000 in
theorem spec_ToWords.calls_f (k : Nat) (a0_0 : Bool) (A0_1 : Option Addr) (c0_1 : Nat) (l0_1 : List Int) (a1 : Int) (r1 : List Int) (r2 : Bool) (w : World) (hr0_1 : Kd.C (Kd.int .u32) w A0_1 l0_1.length l0_1) (hc0_1 : l0_1.length ≤ c0_1) (ha_ : a0_0 = false) (h : spec_ToWords.f k a0_0 l0_1 a1 = some (r1, r2)) :
    Calls Tryz.prog 17 #[.agg #[.bool a0_0, .slice A0_1 l0_1.length c0_1], .int .i64 a1] w fun e w' => ∃ v0_ : Value, e = .returned (.tuple #[v0_, .bool r2]) ∧ Kd.R (Kd.int .u64) 30 w' w.heap.size (fun _ => True) v0_ r1 ∧ Below w.heap.size w w' := by
 have HA_ := Aside0.mk ha_
 clear ha_
 have hu27 := Tryz.underlying27
 have HR0_1 := Aside0.mk hr0_1
 have HC0_1 := Aside0.mk hc0_1
 clear hr0_1 hc0_1
 have HB := Aside0.mk (Below.refl w.heap.size w)
 have H : ((spec_Two.f k (wrap64 ((wrap64 (64 * a1)) - 1))).bind fun bt339 => ((spec_WideCmp.f k a0_0 l0_1 bt339.1 bt339.2).bind fun t344 => (if t344 < 0 then ((spec_Wide_Negated.f k bt339.1 bt339.2).bind fun bt345 => ((spec_WideCmp.f k a0_0 l0_1 bt345.1 bt345.2).bind fun t349 => (spec_ToWords.j0 k a1 (decide (t349 ≥ 0)) a0_0 l0_1))) else (spec_ToWords.j0 k a1 false a0_0 l0_1)))) = some (r1, r2) := h
 clear h
 replace H := Option.bind_eq_some_iff.mp H
 obtain ⟨⟨t339, t340⟩, A30, H⟩ := H
 replace H : ((spec_WideCmp.f k a0_0 l0_1 t339 t340).bind fun t344 => (if t344 < 0 then ((spec_Wide_Negated.f k t339 t340).bind fun bt345 => ((spec_WideCmp.f k a0_0 l0_1 bt345.1 bt345.2).bind fun t349 => (spec_ToWords.j0 k a1 (decide (t349 ≥ 0)) a0_0 l0_1))) else (spec_ToWords.j0 k a1 false a0_0 l0_1))) = some (r1, r2) := H
 have A3 := Aside0.mk A30
 clear A30
 have HC4 := Aside0.mk H
 clear H
 go_enter Tryz.func17, Tryz.ntmps17
 go_upto_region 2 with (first | ((with_reducible refine gate_dst (N := 2) rfl ?_); refine box_event ?hg (N := 2) ?hd (cs := #[.bool a0_0, .slice A0_1 l0_1.length c0_1]) (t := 27) ?hr ?_; (case hd => rfl); (case hg => rfl); (case hr => first | (go_simp; done) | (go_simp; rfl)); intro gb338 hg w5 hbox hb; have n0_ := Aside0.mk (below_step (by repeat (first | (with_reducible first | exact HB.out | apply below_alloc | apply pw_below_drewN | apply below_drew1) | exact HB.out)) hb); have n1_ := Aside0.mk (hbox); have n2_ := Aside0.mk ((by rw [hg]; exact (below_size (by repeat (first | (with_reducible first | exact HB.out | apply below_alloc | apply pw_below_drewN | apply below_drew1) | exact HB.out))) : w.heap.size ≤ gb338)); have n3_ := Aside0.mk ((by rw [hg]; exact (below_size (by repeat (first | (with_reducible first | exact HB.out | apply below_alloc | apply pw_below_drewN | apply below_drew1) | exact HB.out))) : w.heap.size ≤ gb338)); clear HB; have HB := n0_; have BK338 := n1_; have GW338 := n2_; have GE338 := n3_; clear n0_ n1_ n2_ n3_; clear hb hbox hg) | ((with_reducible refine gate_callee (f := 13) rfl ?_); refine goesL_ (some 16) rfl rfl Tryz.func13 (by kernel_rfl) rfl #[.int .i64 (wrap64 ((wrap64 (64 * a1)) - 1))] rfl (by (try simp only [List.map_toArray, List.map_cons, List.map_nil]); first | done | rfl | (simp only [List.length_drop, List.length_take]; rfl)) ?_; (with_reducible refine (spec_Two.calls k (wrap64 ((wrap64 (64 * a1)) - 1)) t339 t340 _ A3.out).mono ?_); rintro e w6 ⟨v341, rfl, ho0, hb⟩; refine ⟨_, rfl, ?_⟩; have n0_ := Aside0.mk (Kd.V_lower (Kd.V_mono (ok' := fun k_ => k_ ≠ gb338) ho0 (fun k_ hk_ => (Kd.freshB (g := gb338) (o := .cells #[.bool a0_0, .slice A0_1 l0_1.length c0_1] 27 (0, 0)) (by (with_reducible repeat (first | refine blk_drewN ?_ _ | refine blk_drew ?_ | refine blk_alloc ?_ _)); exact BK338.out) k_ hk_))) (below_size (by repeat (first | (with_reducible first | exact HB.out | apply below_alloc | apply pw_below_drewN | apply below_drew1 | refine below_set ?_ GE338.out) | exact HB.out)))); have n1_ := Aside0.mk (blk_below (g := gb338) (o := .cells #[.bool a0_0, .slice A0_1 l0_1.length c0_1] 27 (0, 0)) (by (with_reducible repeat (first | refine blk_drewN ?_ _ | refine blk_drew ?_ | refine blk_alloc ?_ _)); exact BK338.out) hb); have n2_ := Aside0.mk (below_step (by repeat (first | (with_reducible first | exact HB.out | apply below_alloc | apply pw_below_drewN | apply below_drew1 | refine below_set ?_ GE338.out) | exact HB.out)) hb); clear BK338; clear HB; have HO342 := n0_; have BK338 := n1_; have HB := n2_; clear n0_ n1_ n2_; (try clear hb); (try clear hb2); (try clear hk); (try clear hi); (try clear ho0)) | ((with_reducible refine gate_dst (N := 6) rfl ?_); refine box_event ?hg (N := 6) ?hd (cs := #[.bool false, .slice none 0 0]) (t := 27) ?hr ?_; (case hd => rfl); (case hg => rfl); (case hr => first | (go_simp; done) | (go_simp; rfl)); intro gb343 hg w7 hbox hb; have n0_ := Aside0.mk (Kd.V_below (Kd.V_elderB (by (with_reducible repeat (first | apply Kd.V_alloc | apply Kd.V_drewN | apply Kd.V_drew)); exact HO342.out) gb343 (Nat.le_of_eq hg.symm)) hb); have n1_ := Aside0.mk (blk_below (g := gb338) (o := .cells #[.bool a0_0, .slice A0_1 l0_1.length c0_1] 27 (0, 0)) (by (with_reducible repeat (first | refine blk_drewN ?_ _ | refine blk_drew ?_ | refine blk_alloc ?_ _)); exact BK338.out) hb); have n2_ := Aside0.mk (below_step (by repeat (first | (with_reducible first | exact HB.out | apply below_alloc | apply pw_below_drewN | apply below_drew1 | refine below_set ?_ GE338.out) | exact HB.out)) hb); have n3_ := Aside0.mk (hbox); have n4_ := Aside0.mk ((by rw [hg]; exact (below_size (by repeat (first | (with_reducible first | exact HB.out | apply below_alloc | apply pw_below_drewN | apply below_drew1 | refine below_set ?_ GE338.out) | exact HB.out))) : w.heap.size ≤ gb343)); have n5_ := Aside0.mk ((by rw [hg]; exact (below_size (by repeat (first | (with_reducible first | exact HB.out | apply below_alloc | apply pw_below_drewN | apply below_drew1 | refine below_set ?_ GE338.out) | exact HB.out))) : w.heap.size ≤ gb343)); have n6_ := Aside0.mk ((by rw [hg]; exact Nat.ne_of_lt (blk_lt (g := gb338) (o := .cells #[.bool a0_0, .slice A0_1 l0_1.length c0_1] 27 (0, 0)) (by (with_reducible repeat (first | refine blk_drewN ?_ _ | refine blk_drew ?_ | refine blk_alloc ?_ _)); exact BK338.out)) : gb338 ≠ gb343)); have n7_ := Aside0.mk ((by rw [hg]; exact Nat.ne_of_gt (blk_lt (g := gb338) (o := .cells #[.bool a0_0, .slice A0_1 l0_1.length c0_1] 27 (0, 0)) (by (with_reducible repeat (first | refine blk_drewN ?_ _ | refine blk_drew ?_ | refine blk_alloc ?_ _)); exact BK338.out)) : gb343 ≠ gb338)); clear HO342; clear BK338; clear HB; have HO342 := n0_; have BK338 := n1_; have HB := n2_; have BK343 := n3_; have GW343 := n4_; have GE343 := n5_; have NB338_343 := n6_; have NB343_338 := n7_; clear n0_ n1_ n2_ n3_ n4_ n5_ n6_ n7_; clear hb hbox hg; have hnb8 := NB343_338.out; have hnc8 := NB338_343.out; have hcz9_0 : w7.cell? ⟨gb343, 0, none⟩ = some (.bool false) := (blk_cell BK343.out 0).trans rfl; have hcz9_1 : w7.cell? ⟨gb343, 1, none⟩ = some (.slice none 0 0) := (blk_cell BK343.out 1).trans rfl; have hfz9_0 := blk_frozen BK343.out 0; have hfz9_1 := blk_frozen BK343.out 1; obtain ⟨Ao10, co10, eo10⟩ := Kd.V_slice HO342.out; subst eo10))
 (try simp only [Act.put, List.setIfInBounds_toArray, List.set_cons_zero, List.set_cons_succ])
 go_cut [7] (fun v7 wc => ∃ (kq : Nat) (x7_3 : Bool), v7 = .bool x7_3 ∧ Aside0 (spec_ToWords.j0 kq a1 x7_3 a0_0 l0_1 = some (r1, r2)) ∧ Aside0 (kq ≤ k) ∧ Aside0 (Kd.V (Kd.int .u32) 22 wc w.heap.size (fun k_ => k_ ≠ gb338 ∧ k_ ≠ gb343) (.slice Ao10 t340.length co10) t340) ∧ Aside0 (wc.heap[gb338]? = some (.cells #[.bool a0_0, (.slice A0_1 l0_1.length c0_1)] 27 (0, 0))) ∧ Aside0 (wc.heap[gb343]? = some (.cells #[.bool t339, (.slice Ao10 t340.length co10)] 27 (0, 0))) ∧ Aside0 (Below w.heap.size w wc))
 case first =>
  have H := HC4.out
  clear HC4
  replace H := Option.bind_eq_some_iff.mp H
  obtain ⟨t344, A110, H⟩ := H
  replace H : (if t344 < 0 then ((spec_Wide_Negated.f k t339 t340).bind fun bt345 => ((spec_WideCmp.f k a0_0 l0_1 bt345.1 bt345.2).bind fun t349 => (spec_ToWords.j0 k a1 (decide (t349 ≥ 0)) a0_0 l0_1))) else (spec_ToWords.j0 k a1 false a0_0 l0_1)) = some (r1, r2) := H
  have A11 := Aside0.mk A110
  clear A110
  by_cases c12 : t344 < 0
  ·rw [if_pos c12] at H
   have c12b0 : decide (t344 < 0) = true := decide_eq_true c12
   clear c12
   (first | rw [c12b0] | (simp only [i64_w, i32_w]; rw [c12b0]) | skip)
   replace H := Option.bind_eq_some_iff.mp H
   obtain ⟨⟨t345, t346⟩, A130, H⟩ := H
   replace H : ((spec_WideCmp.f k a0_0 l0_1 t345 t346).bind fun t349 => (spec_ToWords.j0 k a1 (decide (t349 ≥ 0)) a0_0 l0_1)) = some (r1, r2) := H
   have A13 := Aside0.mk A130
   clear A130
   replace H := Option.bind_eq_some_iff.mp H
   obtain ⟨t349, A140, H⟩ := H
   replace H : (spec_ToWords.j0 k a1 (decide (t349 ≥ 0)) a0_0 l0_1) = some (r1, r2) := H
   have A14 := Aside0.mk A140
   clear A140
   have H' := Aside0.mk H
   clear H
   try go_wp2
   have n0_ : Aside0 (Kd.V (Kd.int .u32) 22 ((w7.setCell ⟨gb343, 0, none⟩ (.bool t339)).setCell ⟨gb343, 1, none⟩ (.slice Ao10 t340.length co10)) w.heap.size (fun k_ => k_ ≠ gb338 ∧ k_ ≠ gb343) (.slice Ao10 t340.length co10) t340) := ⟨by (with_reducible repeat (first | apply Kd.V_alloc | apply Kd.V_drewN | apply Kd.V_drew)); exact Kd.V_mono (Kd.V_far (p := ⟨gb343, 1, none⟩) (Kd.V_far (p := ⟨gb343, 0, none⟩) (Kd.V_mono HO342.out (fun k_ hk => (⟨hk, hk.2⟩ : _ ∧ k_ ≠ gb343))) (fun _ hk => hk.2) (.bool t339)) (fun _ hk => hk.2) (.slice Ao10 t340.length co10)) (fun _ hk => ⟨hk.1.1, hk.1.2⟩)⟩
   have n1_ : Aside0 (((w7.setCell ⟨gb343, 0, none⟩ (.bool t339)).setCell ⟨gb343, 1, none⟩ (.slice Ao10 t340.length co10)).heap[gb338]? = some (.cells #[.bool a0_0, .slice A0_1 l0_1.length c0_1] 27 (0, 0))) := ⟨by (with_reducible repeat (first | refine blk_drewN ?_ _ | refine blk_drew ?_ | refine blk_alloc ?_ _)); refine blk_far ?_ NB338_343.out _; (with_reducible repeat (first | refine blk_drewN ?_ _ | refine blk_drew ?_ | refine blk_alloc ?_ _)); refine blk_far ?_ NB338_343.out _; (with_reducible repeat (first | refine blk_drewN ?_ _ | refine blk_drew ?_ | refine blk_alloc ?_ _)); exact BK338.out⟩
   have n2_ : Aside0 (((w7.setCell ⟨gb343, 0, none⟩ (.bool t339)).setCell ⟨gb343, 1, none⟩ (.slice Ao10 t340.length co10)).heap[gb343]? = some (.cells #[.bool t339, .slice Ao10 t340.length co10] 27 (0, 0))) := ⟨by (with_reducible repeat (first | refine blk_drewN ?_ _ | refine blk_drew ?_ | refine blk_alloc ?_ _)); refine blk_put (cs := #[.bool t339, .slice none 0 0]) ?_ 1 _ rfl; (with_reducible repeat (first | refine blk_drewN ?_ _ | refine blk_drew ?_ | refine blk_alloc ?_ _)); refine blk_put (cs := #[.bool false, .slice none 0 0]) ?_ 0 _ rfl; (with_reducible repeat (first | refine blk_drewN ?_ _ | refine blk_drew ?_ | refine blk_alloc ?_ _)); exact BK343.out⟩
   have n3_ : Aside0 (Below w.heap.size w ((w7.setCell ⟨gb343, 0, none⟩ (.bool t339)).setCell ⟨gb343, 1, none⟩ (.slice Ao10 t340.length co10))) := ⟨by repeat (first | (with_reducible first | exact HB.out | apply below_alloc | apply pw_below_drewN | apply below_drew1 | refine below_set ?_ GE338.out | refine below_set ?_ GE343.out) | exact HB.out)⟩
   (try clear HO342)
   (try clear BK338)
   (try clear BK343)
   (try clear HB)
   generalize ((w7.setCell ⟨gb343, 0, none⟩ (.bool t339)).setCell ⟨gb343, 1, none⟩ (.slice Ao10 t340.length co10)) = w15 at n0_ n1_ n2_ n3_ ⊢
   have HO342 := n0_
   have BK338 := n1_
   have BK343 := n2_
   have HB := n3_
   clear n0_ n1_ n2_ n3_
   have n0_ := Aside0.mk (Kd.V_drew HO342.out)
   have n1_ := Aside0.mk (blk_drew BK338.out)
   have n2_ := Aside0.mk (blk_drew BK343.out)
   have n3_ := Aside0.mk (below_drew1 HB.out)
   clear HO342 BK338 BK343 HB
   have HO342 := n0_
   have BK338 := n1_
   have BK343 := n2_
   have HB := n3_
   clear n0_ n1_ n2_ n3_
   refine start_ (n := 12) (S := fun w' => w'.cell? ⟨gb338, 0, none⟩ = some (.bool a0_0) ∧ w'.cell? ⟨gb338, 1, none⟩ = some (.slice A0_1 l0_1.length c0_1) ∧ w'.cell? ⟨gb343, 0, none⟩ = some (.bool t339) ∧ w'.cell? ⟨gb343, 1, none⟩ = some (.slice Ao10 t340.length co10)) (ds := []) #[false, false, false, false, false, false, false, false, false, false, false, false] (by kernel_rfl) rfl rfl ⟨(blk_cell BK338.out 0).trans rfl, (blk_cell BK338.out 1).trans rfl, (blk_cell BK343.out 0).trans rfl, (blk_cell BK343.out 1).trans rfl⟩ (fun hHeld => ?_); refine with_tabW spec_ToWords.tab2 spec_ToWords.bits2 (fun HT_ HW_ => ?_)
   generalize w15.drew = w16 at HO342 BK338 BK343 HB hHeld ⊢
   refine take_ (i := 0) (N := some 17) (v := ?_) (a' := ?_) #[true, false, false, false, false, false, false, false, false, false, false, false] rfl rfl (take_ofW HT_.out HW_.out (by kernel_rfl)) (fun _ _ _ h => h) (Or.inl ⟨by rfl, ?_⟩) hHeld ?_ ?_
   rotate_left
   ·rintro w' ⟨s0, s1, s2, s3⟩
    go_simp
    with_reducible rfl
   rotate_left
   ·simp only [Act.put, List.setIfInBounds_toArray, List.set_cons_zero, List.set_cons_succ, i64_w, i32_w]
    rfl
   refine take_ (i := 1) (N := some 18) (v := ?_) (a' := ?_) #[true, true, false, false, false, false, false, false, false, false, false, false] rfl rfl (take_ofW HT_.out HW_.out (by kernel_rfl)) (fun _ _ _ h => h) (Or.inl ⟨by rfl, ?_⟩) hHeld ?_ ?_
   rotate_left
   ·rintro w' ⟨s0, s1, s2, s3⟩
    go_simp
    with_reducible rfl
   rotate_left
   ·simp only [Act.put, List.setIfInBounds_toArray, List.set_cons_zero, List.set_cons_succ, i64_w, i32_w]
    rfl
   refine one_ (i := 2) (N := some 19) #[true, true, true, false, false, false, false, false, false, false, false, false] rfl rfl (one_of HT_.out (by kernel_rfl)) (by decide) (fun K hK => ?_)
   refine goes_ Tryz.func18 (by kernel_rfl) rfl #[.agg #[.bool a0_0, .slice A0_1 l0_1.length c0_1], .agg #[.bool t339, .slice Ao10 t340.length co10]] (by rfl) rfl rfl (by (try simp only [List.map_toArray, List.map_cons, List.map_nil]); first | done | rfl | (simp only [List.length_drop, List.length_take]; rfl)) ?_
   with_reducible refine (spec_WideCmp.calls k a0_0 _ _ l0_1 t339 _ _ t340 t344 _ ?side1 ?side2 ?side3 ?side4 A11.out).mono ?_
   (case side1 => repeat (first | exact (Kd.C_below HR0_1.out HB.out) | (with_reducible refine Kd.C_alloc ?_ _) | (with_reducible refine Kd.C_drewN ?_ _) | (with_reducible refine Kd.C_drew ?_)))
   (case side2 => exact HC0_1.out)
   (case side3 => repeat (first | exact (Kd.V_reads' HO342.out).2.2 | (with_reducible refine Kd.C_alloc ?_ _) | (with_reducible refine Kd.C_drewN ?_ _) | (with_reducible refine Kd.C_drew ?_)))
   (case side4 => exact (Kd.V_reads' HO342.out).2.1)
   rintro e w17 ⟨rfl, hb⟩
   refine ⟨_, rfl, ?_⟩
   have n0_ := Aside0.mk (Kd.V_below (by (with_reducible repeat (first | apply Kd.V_alloc | apply Kd.V_drewN | apply Kd.V_drew)); exact HO342.out) hb)
   have n1_ := Aside0.mk (blk_below (g := gb338) (o := .cells #[.bool a0_0, .slice A0_1 l0_1.length c0_1] 27 (0, 0)) (by (with_reducible repeat (first | refine blk_drewN ?_ _ | refine blk_drew ?_ | refine blk_alloc ?_ _)); exact BK338.out) hb)
   have n2_ := Aside0.mk (blk_below (g := gb343) (o := .cells #[.bool t339, .slice Ao10 t340.length co10] 27 (0, 0)) (by (with_reducible repeat (first | refine blk_drewN ?_ _ | refine blk_drew ?_ | refine blk_alloc ?_ _)); exact BK343.out) hb)
   have n3_ := Aside0.mk (below_step (by repeat (first | (with_reducible first | exact HB.out | apply below_alloc | apply pw_below_drewN | apply below_drew1 | refine below_set ?_ GE338.out | refine below_set ?_ GE343.out) | exact HB.out)) hb)
   clear HO342 BK338 BK343 HB
   have HO342 := n0_
   have BK338 := n1_
   have BK343 := n2_
   have HB := n3_
   clear n0_ n1_ n2_ n3_
   (try clear hb)
   (try clear hb2)
   (try clear hk)
   (try clear hi)
   refine hK.out _ _ ⟨(blk_cell BK338.out 0).trans rfl, (blk_cell BK338.out 1).trans rfl, (blk_cell BK343.out 0).trans rfl, (blk_cell BK343.out 1).trans rfl⟩ (fun hHeld => ?_)
   clear hK K
   refine norm_ (a' := ?_) ?_ ?_
   rotate_left
   ·show Act.put _ (some 19) _ = _
    simp only [Act.put, List.setIfInBounds_toArray, List.set_cons_zero, List.set_cons_succ, i64_w, i32_w]
    rfl
   refine pure_ (i := 3) (N := some 20) (v := ?_) (a' := ?_) #[true, true, true, true, false, false, false, false, false, false, false, false] rfl rfl (any_of HT_.out (by kernel_rfl)) (fun _ _ _ h => h) (Or.inl ⟨by rfl, ?_⟩) ?_ ?_
   rotate_left
   ·intro w'
    go_simp
    with_reducible rfl
   rotate_left
   ·simp only [Act.put, List.setIfInBounds_toArray, List.set_cons_zero, List.set_cons_succ, i64_w, i32_w]
    rfl
   refine pure_ (i := 4) (N := some 21) (v := ?_) (a' := ?_) #[true, true, true, true, true, false, false, false, false, false, false, false] rfl rfl (any_of HT_.out (by kernel_rfl)) (fun _ _ _ h => h) (Or.inl ⟨by rfl, ?_⟩) ?_ ?_
   rotate_left
   ·intro w'
    go_simp
    with_reducible rfl
   rotate_left
   ·simp only [Act.put, List.setIfInBounds_toArray, List.set_cons_zero, List.set_cons_succ, i64_w, i32_w]
    rfl
   refine take_ (i := 5) (N := some 22) (v := ?_) (a' := ?_) #[true, true, true, true, true, true, false, false, false, false, false, false] rfl rfl (take_ofW HT_.out HW_.out (by kernel_rfl)) (fun _ _ _ h => h) (Or.inl ⟨by rfl, ?_⟩) hHeld ?_ ?_
   rotate_left
   ·rintro w' ⟨s0, s1, s2, s3⟩
    go_simp
    with_reducible rfl
   rotate_left
   ·simp only [Act.put, List.setIfInBounds_toArray, List.set_cons_zero, List.set_cons_succ, i64_w, i32_w]
    rfl
   refine take_ (i := 6) (N := some 23) (v := ?_) (a' := ?_) #[true, true, true, true, true, true, true, false, false, false, false, false] rfl rfl (take_ofW HT_.out HW_.out (by kernel_rfl)) (fun _ _ _ h => h) (Or.inl ⟨by rfl, ?_⟩) hHeld ?_ ?_
   rotate_left
   ·rintro w' ⟨s0, s1, s2, s3⟩
    go_simp
    with_reducible rfl
   rotate_left
   ·simp only [Act.put, List.setIfInBounds_toArray, List.set_cons_zero, List.set_cons_succ, i64_w, i32_w]
    rfl
   refine one_ (i := 7) (N := some 24) #[true, true, true, true, true, true, true, true, false, false, false, false] rfl rfl (one_of HT_.out (by kernel_rfl)) (by decide) (fun K hK => ?_)
   refine goes_ Tryz.func14 (by kernel_rfl) rfl #[.agg #[.bool t339, .slice Ao10 t340.length co10]] (by rfl) rfl rfl (by (try simp only [List.map_toArray, List.map_cons, List.map_nil]); first | done | rfl | (simp only [List.length_drop, List.length_take]; rfl)) ?_
   with_reducible refine (spec_Wide_Negated.calls k t339 (fun k_ => (k_ ≠ gb338 ∧ k_ ≠ gb343)) _ _ t340 t345 t346 _ ?side1 A13.out).mono ?_
   (case side1 => exact HO342.out)
   rintro e w18 ⟨v347, rfl, ho0, hb⟩
   refine ⟨_, rfl, ?_⟩
   have n0_ := Aside0.mk (Kd.V_below (by (with_reducible repeat (first | apply Kd.V_alloc | apply Kd.V_drewN | apply Kd.V_drew)); exact HO342.out) hb)
   have n1_ := Aside0.mk (Kd.V_lower (Kd.V_mono (ok' := fun k_ => k_ ≠ gb338 ∧ k_ ≠ gb343) ho0 (fun k_ hk_ => ⟨Or.elim hk_ (fun hs_ => hs_.1) (fun hn_ => (Kd.freshB (g := gb338) (o := .cells #[.bool a0_0, .slice A0_1 l0_1.length c0_1] 27 (0, 0)) (by (with_reducible repeat (first | refine blk_drewN ?_ _ | refine blk_drew ?_ | refine blk_alloc ?_ _)); exact BK338.out) k_ hn_)), Or.elim hk_ (fun hs_ => hs_.2) (fun hn_ => (Kd.freshB (g := gb343) (o := .cells #[.bool t339, .slice Ao10 t340.length co10] 27 (0, 0)) (by (with_reducible repeat (first | refine blk_drewN ?_ _ | refine blk_drew ?_ | refine blk_alloc ?_ _)); exact BK343.out) k_ hn_))⟩)) (below_size (by repeat (first | (with_reducible first | exact HB.out | apply below_alloc | apply pw_below_drewN | apply below_drew1 | refine below_set ?_ GE338.out | refine below_set ?_ GE343.out) | exact HB.out))))
   have n2_ := Aside0.mk (blk_below (g := gb338) (o := .cells #[.bool a0_0, .slice A0_1 l0_1.length c0_1] 27 (0, 0)) (by (with_reducible repeat (first | refine blk_drewN ?_ _ | refine blk_drew ?_ | refine blk_alloc ?_ _)); exact BK338.out) hb)
   have n3_ := Aside0.mk (blk_below (g := gb343) (o := .cells #[.bool t339, .slice Ao10 t340.length co10] 27 (0, 0)) (by (with_reducible repeat (first | refine blk_drewN ?_ _ | refine blk_drew ?_ | refine blk_alloc ?_ _)); exact BK343.out) hb)
   have n4_ := Aside0.mk (below_step (by repeat (first | (with_reducible first | exact HB.out | apply below_alloc | apply pw_below_drewN | apply below_drew1 | refine below_set ?_ GE338.out | refine below_set ?_ GE343.out) | exact HB.out)) hb)
   clear HO342 BK338 BK343 HB
   have HO342 := n0_
   have HO348 := n1_
   have BK338 := n2_
   have BK343 := n3_
   have HB := n4_
   clear n0_ n1_ n2_ n3_ n4_
   (try clear hb)
   (try clear hb2)
   (try clear hk)
   (try clear hi)
   (try clear ho0)
   obtain ⟨Ao19, co19, eo19⟩ := Kd.V_slice HO348.out
   (first | subst eo19 | (injection eo19 with f1_ f2_ f3_; have f4_ := f1_.symm; have f5_ := f3_.symm; clear f1_ f2_ f3_; subst f4_; subst f5_))
   refine hK.out _ _ ⟨(blk_cell BK338.out 0).trans rfl, (blk_cell BK338.out 1).trans rfl, (blk_cell BK343.out 0).trans rfl, (blk_cell BK343.out 1).trans rfl⟩ (fun hHeld => ?_)
   clear hK K
   refine norm_ (a' := ?_) ?_ ?_
   rotate_left
   ·show Act.put _ (some 24) _ = _
    simp only [Act.put, List.setIfInBounds_toArray, List.set_cons_zero, List.set_cons_succ, i64_w, i32_w]
    rfl
   refine one_ (i := 8) (N := some 25) #[true, true, true, true, true, true, true, true, true, false, false, false] rfl rfl (one_of HT_.out (by kernel_rfl)) (by decide) (fun K hK => ?_)
   refine goes_ Tryz.func18 (by kernel_rfl) rfl #[.agg #[.bool a0_0, .slice A0_1 l0_1.length c0_1], .agg #[.bool t345, .slice Ao19 t346.length co19]] (by rfl) rfl rfl (by (try simp only [List.map_toArray, List.map_cons, List.map_nil]); first | done | rfl | (simp only [List.length_drop, List.length_take]; rfl)) ?_
   with_reducible refine (spec_WideCmp.calls k a0_0 _ _ l0_1 t345 _ _ t346 t349 _ ?side1 ?side2 ?side3 ?side4 A14.out).mono ?_
   (case side1 => repeat (first | exact (Kd.C_below HR0_1.out HB.out) | (with_reducible refine Kd.C_alloc ?_ _) | (with_reducible refine Kd.C_drewN ?_ _) | (with_reducible refine Kd.C_drew ?_)))
   (case side2 => exact HC0_1.out)
   (case side3 => repeat (first | exact (Kd.V_reads' HO348.out).2.2 | (with_reducible refine Kd.C_alloc ?_ _) | (with_reducible refine Kd.C_drewN ?_ _) | (with_reducible refine Kd.C_drew ?_)))
   (case side4 => exact (Kd.V_reads' HO348.out).2.1)
   rintro e w20 ⟨rfl, hb⟩
   refine ⟨_, rfl, ?_⟩
   have n0_ := Aside0.mk (Kd.V_below (by (with_reducible repeat (first | apply Kd.V_alloc | apply Kd.V_drewN | apply Kd.V_drew)); exact HO342.out) hb)
   have n1_ := Aside0.mk (Kd.V_below (by (with_reducible repeat (first | apply Kd.V_alloc | apply Kd.V_drewN | apply Kd.V_drew)); exact HO348.out) hb)
   have n2_ := Aside0.mk (blk_below (g := gb338) (o := .cells #[.bool a0_0, .slice A0_1 l0_1.length c0_1] 27 (0, 0)) (by (with_reducible repeat (first | refine blk_drewN ?_ _ | refine blk_drew ?_ | refine blk_alloc ?_ _)); exact BK338.out) hb)
   have n3_ := Aside0.mk (blk_below (g := gb343) (o := .cells #[.bool t339, .slice Ao10 t340.length co10] 27 (0, 0)) (by (with_reducible repeat (first | refine blk_drewN ?_ _ | refine blk_drew ?_ | refine blk_alloc ?_ _)); exact BK343.out) hb)
   have n4_ := Aside0.mk (below_step (by repeat (first | (with_reducible first | exact HB.out | apply below_alloc | apply pw_below_drewN | apply below_drew1 | refine below_set ?_ GE338.out | refine below_set ?_ GE343.out) | exact HB.out)) hb)
   clear HO342 HO348 BK338 BK343 HB
   have HO342 := n0_
   have HO348 := n1_
   have BK338 := n2_
   have BK343 := n3_
   have HB := n4_
   clear n0_ n1_ n2_ n3_ n4_
   (try clear hb)
   (try clear hb2)
   (try clear hk)
   (try clear hi)
   refine hK.out _ _ ⟨(blk_cell BK338.out 0).trans rfl, (blk_cell BK338.out 1).trans rfl, (blk_cell BK343.out 0).trans rfl, (blk_cell BK343.out 1).trans rfl⟩ (fun hHeld => ?_)
   clear hK K
   refine norm_ (a' := ?_) ?_ ?_
   rotate_left
   ·show Act.put _ (some 25) _ = _
    simp only [Act.put, List.setIfInBounds_toArray, List.set_cons_zero, List.set_cons_succ, i64_w, i32_w]
    rfl
   refine pure_ (i := 9) (N := some 26) (v := ?_) (a' := ?_) #[true, true, true, true, true, true, true, true, true, true, false, false] rfl rfl (any_of HT_.out (by kernel_rfl)) (fun _ _ _ h => h) (Or.inl ⟨by rfl, ?_⟩) ?_ ?_
   rotate_left
   ·intro w'
    go_simp
    with_reducible rfl
   rotate_left
   ·simp only [Act.put, List.setIfInBounds_toArray, List.set_cons_zero, List.set_cons_succ, i64_w, i32_w]
    rfl
   refine pure_ (i := 10) (N := some 27) (v := ?_) (a' := ?_) #[true, true, true, true, true, true, true, true, true, true, true, false] rfl rfl (any_of HT_.out (by kernel_rfl)) (fun _ _ _ h => h) (Or.inl ⟨by rfl, ?_⟩) ?_ ?_
   rotate_left
   ·intro w'
    go_simp
    with_reducible rfl
   rotate_left
   ·simp only [Act.put, List.setIfInBounds_toArray, List.set_cons_zero, List.set_cons_succ, i64_w, i32_w]
    rfl
   refine pure_ (i := 11) (N := some 7) (v := ?_) (a' := ?_) #[true, true, true, true, true, true, true, true, true, true, true, true] rfl rfl (any_of HT_.out (by kernel_rfl)) (fun _ _ _ h => h) (Or.inl ⟨by rfl, ?_⟩) ?_ ?_
   rotate_left
   ·intro w'
    go_simp
    with_reducible rfl
   rotate_left
   ·simp only [Act.put, List.setIfInBounds_toArray, List.set_cons_zero, List.set_cons_succ, i64_w, i32_w]
    rfl
   refine done_ (done_of HT_.out (by kernel_rfl)) ?_
   try go_wp2
   go_meet
   case rel => exact ⟨_, (decide (t349 ≥ 0)), (by first | rfl | (simp; done) | (simp [*]; done)), H', ⟨by first | omega | exact Nat.le_refl _⟩, ⟨by (with_reducible repeat (first | apply Kd.V_alloc | apply Kd.V_drewN | apply Kd.V_drew)); exact HO342.out⟩, ⟨by (with_reducible repeat (first | refine blk_drewN ?_ _ | refine blk_drew ?_ | refine blk_alloc ?_ _)); exact BK338.out⟩, ⟨by (with_reducible repeat (first | refine blk_drewN ?_ _ | refine blk_drew ?_ | refine blk_alloc ?_ _)); exact BK343.out⟩, ⟨by repeat (first | (with_reducible first | exact HB.out | apply below_alloc | apply pw_below_drewN | apply below_drew1 | refine below_set ?_ GE338.out | refine below_set ?_ GE343.out) | exact HB.out)⟩⟩
  ·rw [if_neg c12] at H
   have c12b0 : decide (t344 < 0) = false := decide_eq_false c12
   clear c12
   (first | rw [c12b0] | (simp only [i64_w, i32_w]; rw [c12b0]) | skip)
   have H' := Aside0.mk H
   clear H
   try go_wp2
   have n0_ : Aside0 (Kd.V (Kd.int .u32) 22 ((w7.setCell ⟨gb343, 0, none⟩ (.bool t339)).setCell ⟨gb343, 1, none⟩ (.slice Ao10 t340.length co10)) w.heap.size (fun k_ => k_ ≠ gb338 ∧ k_ ≠ gb343) (.slice Ao10 t340.length co10) t340) := ⟨by (with_reducible repeat (first | apply Kd.V_alloc | apply Kd.V_drewN | apply Kd.V_drew)); exact Kd.V_mono (Kd.V_far (p := ⟨gb343, 1, none⟩) (Kd.V_far (p := ⟨gb343, 0, none⟩) (Kd.V_mono HO342.out (fun k_ hk => (⟨hk, hk.2⟩ : _ ∧ k_ ≠ gb343))) (fun _ hk => hk.2) (.bool t339)) (fun _ hk => hk.2) (.slice Ao10 t340.length co10)) (fun _ hk => ⟨hk.1.1, hk.1.2⟩)⟩
   have n1_ : Aside0 (((w7.setCell ⟨gb343, 0, none⟩ (.bool t339)).setCell ⟨gb343, 1, none⟩ (.slice Ao10 t340.length co10)).heap[gb338]? = some (.cells #[.bool a0_0, .slice A0_1 l0_1.length c0_1] 27 (0, 0))) := ⟨by (with_reducible repeat (first | refine blk_drewN ?_ _ | refine blk_drew ?_ | refine blk_alloc ?_ _)); refine blk_far ?_ NB338_343.out _; (with_reducible repeat (first | refine blk_drewN ?_ _ | refine blk_drew ?_ | refine blk_alloc ?_ _)); refine blk_far ?_ NB338_343.out _; (with_reducible repeat (first | refine blk_drewN ?_ _ | refine blk_drew ?_ | refine blk_alloc ?_ _)); exact BK338.out⟩
   have n2_ : Aside0 (((w7.setCell ⟨gb343, 0, none⟩ (.bool t339)).setCell ⟨gb343, 1, none⟩ (.slice Ao10 t340.length co10)).heap[gb343]? = some (.cells #[.bool t339, .slice Ao10 t340.length co10] 27 (0, 0))) := ⟨by (with_reducible repeat (first | refine blk_drewN ?_ _ | refine blk_drew ?_ | refine blk_alloc ?_ _)); refine blk_put (cs := #[.bool t339, .slice none 0 0]) ?_ 1 _ rfl; (with_reducible repeat (first | refine blk_drewN ?_ _ | refine blk_drew ?_ | refine blk_alloc ?_ _)); refine blk_put (cs := #[.bool false, .slice none 0 0]) ?_ 0 _ rfl; (with_reducible repeat (first | refine blk_drewN ?_ _ | refine blk_drew ?_ | refine blk_alloc ?_ _)); exact BK343.out⟩
   have n3_ : Aside0 (Below w.heap.size w ((w7.setCell ⟨gb343, 0, none⟩ (.bool t339)).setCell ⟨gb343, 1, none⟩ (.slice Ao10 t340.length co10))) := ⟨by repeat (first | (with_reducible first | exact HB.out | apply below_alloc | apply pw_below_drewN | apply below_drew1 | refine below_set ?_ GE338.out | refine below_set ?_ GE343.out) | exact HB.out)⟩
   (try clear HO342)
   (try clear BK338)
   (try clear BK343)
   (try clear HB)
   generalize ((w7.setCell ⟨gb343, 0, none⟩ (.bool t339)).setCell ⟨gb343, 1, none⟩ (.slice Ao10 t340.length co10)) = w21 at n0_ n1_ n2_ n3_ ⊢
   have HO342 := n0_
   have BK338 := n1_
   have BK343 := n2_
   have HB := n3_
   clear n0_ n1_ n2_ n3_
   have n0_ := Aside0.mk (Kd.V_drew HO342.out)
   have n1_ := Aside0.mk (blk_drew BK338.out)
   have n2_ := Aside0.mk (blk_drew BK343.out)
   have n3_ := Aside0.mk (below_drew1 HB.out)
   clear HO342 BK338 BK343 HB
   have HO342 := n0_
   have BK338 := n1_
   have BK343 := n2_
   have HB := n3_
   clear n0_ n1_ n2_ n3_
   refine start_ (n := 12) (S := fun w' => w'.cell? ⟨gb338, 0, none⟩ = some (.bool a0_0) ∧ w'.cell? ⟨gb338, 1, none⟩ = some (.slice A0_1 l0_1.length c0_1) ∧ w'.cell? ⟨gb343, 0, none⟩ = some (.bool t339) ∧ w'.cell? ⟨gb343, 1, none⟩ = some (.slice Ao10 t340.length co10)) (ds := []) #[false, false, false, false, false, false, false, false, false, false, false, false] (by kernel_rfl) rfl rfl ⟨(blk_cell BK338.out 0).trans rfl, (blk_cell BK338.out 1).trans rfl, (blk_cell BK343.out 0).trans rfl, (blk_cell BK343.out 1).trans rfl⟩ (fun hHeld => ?_); refine with_tabW spec_ToWords.tab2 spec_ToWords.bits2 (fun HT_ HW_ => ?_)
   generalize w21.drew = w22 at HO342 BK338 BK343 HB hHeld ⊢
   refine take_ (i := 0) (N := some 17) (v := ?_) (a' := ?_) #[true, false, false, false, false, false, false, false, false, false, false, false] rfl rfl (take_ofW HT_.out HW_.out (by kernel_rfl)) (fun _ _ _ h => h) (Or.inl ⟨by rfl, ?_⟩) hHeld ?_ ?_
   rotate_left
   ·rintro w' ⟨s0, s1, s2, s3⟩
    go_simp
    with_reducible rfl
   rotate_left
   ·simp only [Act.put, List.setIfInBounds_toArray, List.set_cons_zero, List.set_cons_succ, i64_w, i32_w]
    rfl
   refine take_ (i := 1) (N := some 18) (v := ?_) (a' := ?_) #[true, true, false, false, false, false, false, false, false, false, false, false] rfl rfl (take_ofW HT_.out HW_.out (by kernel_rfl)) (fun _ _ _ h => h) (Or.inl ⟨by rfl, ?_⟩) hHeld ?_ ?_
   rotate_left
   ·rintro w' ⟨s0, s1, s2, s3⟩
    go_simp
    with_reducible rfl
   rotate_left
   ·simp only [Act.put, List.setIfInBounds_toArray, List.set_cons_zero, List.set_cons_succ, i64_w, i32_w]
    rfl
   refine one_ (i := 2) (N := some 19) #[true, true, true, false, false, false, false, false, false, false, false, false] rfl rfl (one_of HT_.out (by kernel_rfl)) (by decide) (fun K hK => ?_)
   refine goes_ Tryz.func18 (by kernel_rfl) rfl #[.agg #[.bool a0_0, .slice A0_1 l0_1.length c0_1], .agg #[.bool t339, .slice Ao10 t340.length co10]] (by rfl) rfl rfl (by (try simp only [List.map_toArray, List.map_cons, List.map_nil]); first | done | rfl | (simp only [List.length_drop, List.length_take]; rfl)) ?_
   with_reducible refine (spec_WideCmp.calls k a0_0 _ _ l0_1 t339 _ _ t340 t344 _ ?side1 ?side2 ?side3 ?side4 A11.out).mono ?_
   (case side1 => repeat (first | exact (Kd.C_below HR0_1.out HB.out) | (with_reducible refine Kd.C_alloc ?_ _) | (with_reducible refine Kd.C_drewN ?_ _) | (with_reducible refine Kd.C_drew ?_)))
   (case side2 => exact HC0_1.out)
   (case side3 => repeat (first | exact (Kd.V_reads' HO342.out).2.2 | (with_reducible refine Kd.C_alloc ?_ _) | (with_reducible refine Kd.C_drewN ?_ _) | (with_reducible refine Kd.C_drew ?_)))
   (case side4 => exact (Kd.V_reads' HO342.out).2.1)
   rintro e w23 ⟨rfl, hb⟩
   refine ⟨_, rfl, ?_⟩
   have n0_ := Aside0.mk (Kd.V_below (by (with_reducible repeat (first | apply Kd.V_alloc | apply Kd.V_drewN | apply Kd.V_drew)); exact HO342.out) hb)
   have n1_ := Aside0.mk (blk_below (g := gb338) (o := .cells #[.bool a0_0, .slice A0_1 l0_1.length c0_1] 27 (0, 0)) (by (with_reducible repeat (first | refine blk_drewN ?_ _ | refine blk_drew ?_ | refine blk_alloc ?_ _)); exact BK338.out) hb)
   have n2_ := Aside0.mk (blk_below (g := gb343) (o := .cells #[.bool t339, .slice Ao10 t340.length co10] 27 (0, 0)) (by (with_reducible repeat (first | refine blk_drewN ?_ _ | refine blk_drew ?_ | refine blk_alloc ?_ _)); exact BK343.out) hb)
   have n3_ := Aside0.mk (below_step (by repeat (first | (with_reducible first | exact HB.out | apply below_alloc | apply pw_below_drewN | apply below_drew1 | refine below_set ?_ GE338.out | refine below_set ?_ GE343.out) | exact HB.out)) hb)
   clear HO342 BK338 BK343 HB
   have HO342 := n0_
   have BK338 := n1_
   have BK343 := n2_
   have HB := n3_
   clear n0_ n1_ n2_ n3_
   (try clear hb)
   (try clear hb2)
   (try clear hk)
   (try clear hi)
   refine hK.out _ _ ⟨(blk_cell BK338.out 0).trans rfl, (blk_cell BK338.out 1).trans rfl, (blk_cell BK343.out 0).trans rfl, (blk_cell BK343.out 1).trans rfl⟩ (fun hHeld => ?_)
   clear hK K
   refine norm_ (a' := ?_) ?_ ?_
   rotate_left
   ·show Act.put _ (some 19) _ = _
    simp only [Act.put, List.setIfInBounds_toArray, List.set_cons_zero, List.set_cons_succ, i64_w, i32_w]
    rfl
   refine pure_ (i := 3) (N := some 20) (v := ?_) (a' := ?_) #[true, true, true, true, false, false, false, false, false, false, false, false] rfl rfl (any_of HT_.out (by kernel_rfl)) (fun _ _ _ h => h) (Or.inl ⟨by rfl, ?_⟩) ?_ ?_
   rotate_left
   ·intro w'
    go_simp
    with_reducible rfl
   rotate_left
   ·simp only [Act.put, List.setIfInBounds_toArray, List.set_cons_zero, List.set_cons_succ, i64_w, i32_w]
    rfl
   refine pure_ (i := 4) (N := some 21) (v := ?_) (a' := ?_) #[true, true, true, true, true, false, false, false, false, false, false, false] rfl rfl (any_of HT_.out (by kernel_rfl)) (fun _ _ _ h => h) (Or.inl ⟨by rfl, ?_⟩) ?_ ?_
   rotate_left
   ·intro w'
    go_simp
    with_reducible rfl
   rotate_left
   ·simp only [Act.put, List.setIfInBounds_toArray, List.set_cons_zero, List.set_cons_succ, i64_w, i32_w]
    rfl
   refine pure_ (i := 5) (N := some 22) (v := undef) (a' := ?_) #[true, true, true, true, true, true, false, false, false, false, false, false] rfl rfl (any_of HT_.out (by kernel_rfl)) (fun _ _ _ h => h) (Or.inr ⟨by rfl, rfl⟩) ?_ ?_
   rotate_left
   ·simp only [Act.put, List.setIfInBounds_toArray, List.set_cons_zero, List.set_cons_succ, i64_w, i32_w]
    rfl
   refine pure_ (i := 6) (N := some 23) (v := undef) (a' := ?_) #[true, true, true, true, true, true, true, false, false, false, false, false] rfl rfl (any_of HT_.out (by kernel_rfl)) (fun _ _ _ h => h) (Or.inr ⟨by rfl, rfl⟩) ?_ ?_
   rotate_left
   ·simp only [Act.put, List.setIfInBounds_toArray, List.set_cons_zero, List.set_cons_succ, i64_w, i32_w]
    rfl
   refine pure_ (i := 7) (N := some 24) (v := undef) (a' := ?_) #[true, true, true, true, true, true, true, true, false, false, false, false] rfl rfl (any_of HT_.out (by kernel_rfl)) (fun _ _ _ h => h) (Or.inr ⟨by rfl, rfl⟩) ?_ ?_
   rotate_left
   ·simp only [Act.put, List.setIfInBounds_toArray, List.set_cons_zero, List.set_cons_succ, i64_w, i32_w]
    rfl
   refine pure_ (i := 8) (N := some 25) (v := undef) (a' := ?_) #[true, true, true, true, true, true, true, true, true, false, false, false] rfl rfl (any_of HT_.out (by kernel_rfl)) (fun _ _ _ h => h) (Or.inr ⟨by rfl, rfl⟩) ?_ ?_
   rotate_left
   ·simp only [Act.put, List.setIfInBounds_toArray, List.set_cons_zero, List.set_cons_succ, i64_w, i32_w]
    rfl
   refine pure_ (i := 9) (N := some 26) (v := undef) (a' := ?_) #[true, true, true, true, true, true, true, true, true, true, false, false] rfl rfl (any_of HT_.out (by kernel_rfl)) (fun _ _ _ h => h) (Or.inr ⟨by rfl, rfl⟩) ?_ ?_
   rotate_left
   ·simp only [Act.put, List.setIfInBounds_toArray, List.set_cons_zero, List.set_cons_succ, i64_w, i32_w]
    rfl
   refine pure_ (i := 10) (N := some 27) (v := ?_) (a' := ?_) #[true, true, true, true, true, true, true, true, true, true, true, false] rfl rfl (any_of HT_.out (by kernel_rfl)) (fun _ _ _ h => h) (Or.inl ⟨by rfl, ?_⟩) ?_ ?_
   rotate_left
   ·intro w'
    go_simp
    with_reducible rfl
   rotate_left
   ·simp only [Act.put, List.setIfInBounds_toArray, List.set_cons_zero, List.set_cons_succ, i64_w, i32_w]
    rfl
   refine pure_ (i := 11) (N := some 7) (v := ?_) (a' := ?_) #[true, true, true, true, true, true, true, true, true, true, true, true] rfl rfl (any_of HT_.out (by kernel_rfl)) (fun _ _ _ h => h) (Or.inl ⟨by rfl, ?_⟩) ?_ ?_
   rotate_left
   ·intro w'
    go_simp
    with_reducible rfl
   rotate_left
   ·simp only [Act.put, List.setIfInBounds_toArray, List.set_cons_zero, List.set_cons_succ, i64_w, i32_w]
    rfl
   refine done_ (done_of HT_.out (by kernel_rfl)) ?_
   try go_wp2
   go_meet
   case rel => exact ⟨_, (false), (by first | rfl | (simp; done) | (simp [*]; done)), H', ⟨by first | omega | exact Nat.le_refl _⟩, ⟨by (with_reducible repeat (first | apply Kd.V_alloc | apply Kd.V_drewN | apply Kd.V_drew)); exact HO342.out⟩, ⟨by (with_reducible repeat (first | refine blk_drewN ?_ _ | refine blk_drew ?_ | refine blk_alloc ?_ _)); exact BK338.out⟩, ⟨by (with_reducible repeat (first | refine blk_drewN ?_ _ | refine blk_drew ?_ | refine blk_alloc ?_ _)); exact BK343.out⟩, ⟨by repeat (first | (with_reducible first | exact HB.out | apply below_alloc | apply pw_below_drewN | apply below_drew1 | refine below_set ?_ GE338.out | refine below_set ?_ GE343.out) | exact HB.out)⟩⟩
 case rest =>
  clear HC4
  try clear c1
  try clear p2
  try clear p6
  try clear c8
  try clear c12
  try clear c12b0
  try clear c13
  try clear c14
  try clear c17
  try clear c18
  try clear hcz9_0
  try clear hcz9_1
  try clear hfz9_0
  try clear hfz9_1
  obtain ⟨kq, x7_3, rfl, HA, HJ3, HO_344001, BK338, BK343, HB⟩ := hcut
  cases kq with
  | zero => exact absurd HA.out (by simp [spec_ToWords.j0])
  | succ kj3 =>
   have H := HA.out
   clear HA
   simp only [spec_ToWords.j0] at H
   have c24 : ¬ a0_0 = true := by rw [HA_.out]; exact Bool.false_ne_true
   replace c24 := Bool.eq_false_iff.mpr c24
   subst c24
   have H1 : (if 0 ≤ a1 then (if (a1 : Int).toNat ≤ 35184372088832 then ((some (List.replicate (a1 : Int).toNat 0 : List Int)).bind fun y378 => (spec_ToWords.l2 kj3 x7_3 y378 (y378.length : Int) 0 false l0_1)) else (none)) else (none)) = some (r1, r2) := by rw [if_neg (show ¬ (false = true) by decide)] at H; exact H
   clear H
   have H := H1
   clear H1
   by_cases c78 : 0 ≤ a1
   ·rw [if_pos c78] at H
    have c78b0 := eq_true c78
    have c78b1 : decide (0 ≤ a1) = true := decide_eq_true c78
    clear c78
    by_cases c79 : (a1 : Int).toNat ≤ 35184372088832
    ·rw [if_pos c79] at H
     have c79b0 := eq_true c79
     have c79b1 : decide ((a1 : Int).toNat ≤ 35184372088832) = true := decide_eq_true c79
     clear c79
     obtain ⟨y378, hy378⟩ : ∃ y_ : List Int, y_ = (List.replicate (a1 : Int).toNat 0) := ⟨_, rfl⟩
     replace H : (spec_ToWords.l2 kj3 x7_3 y378 (y378.length : Int) 0 false l0_1) = some (r1, r2) := by first | (rw [hy378]; with_reducible exact H) | (have H2_ := (Option.bind_some _ _).symm.trans H; rw [hy378]; with_reducible exact H2_) | (have H2_ := (Option.bind_some _ _).symm.trans H; with_reducible exact H2_) | with_reducible exact H | (rw [hy378]; exact H) | exact H
     have Ny378 := Aside0.mk hy378
     clear hy378
     have H' := Aside0.mk H
     clear H
     have hnb80 := NB338_343.out
     have hnc80 := NB343_338.out
     have hcz81_0 : wc.cell? ⟨gb338, 0, none⟩ = some (.bool false) := (blk_cell BK338.out 0).trans rfl
     have hcz81_1 : wc.cell? ⟨gb338, 1, none⟩ = some (.slice A0_1 l0_1.length c0_1) := (blk_cell BK338.out 1).trans rfl
     have hfz81_0 := blk_frozen BK338.out 0
     have hfz81_1 := blk_frozen BK338.out 1
     go_wp2_with (first | ((with_reducible refine gate_dst (N := 44) rfl ?_); refine Kd.R_make (Kd.int .u64) _ 30 rfl (N := 44) rfl 51 _ _ rfl a1 rfl rfl Tryz.underlying51 (.int .u64 0) 8 info30 rfl (by decide) (by omega) 0 (ok := fun _ => True) (okp := fun _ => True) rfl (fun _ hk => hk) trivial (of_decide_eq_true (by first | (with_reducible assumption) | assumption)) (Nat.le_trans (Nat.mul_le_mul_right _ (of_decide_eq_true (by first | (with_reducible assumption) | assumption) : a1.toNat ≤ 35184372088832)) (by omega)) (Below.refl _ _) (Nat.le_refl _) ?_; intro v379 w82 ho83 hb hg_ hnew_; clear hg_ hnew_; (first | rw [← Ny378.out] at ho83 | (simp only [Int.reduceToNat] at ho83; rw [← Ny378.out] at ho83)); have n0_ := Aside0.mk (Kd.V_elder' (by (with_reducible repeat (first | apply Kd.V_alloc | apply Kd.V_drewN | apply Kd.V_drew)); exact HO_344001.out) (Kd.R_base ho83) hb); have n1_ := Aside0.mk (Kd.R_lower ho83 (below_size (by repeat (first | (with_reducible first | exact HB.out | apply below_alloc | apply pw_below_drewN | apply below_drew1 | refine below_set ?_ GE338.out | refine below_set ?_ GE343.out) | exact HB.out)))); have n2_ := Aside0.mk (blk_below (g := gb338) (o := .cells #[.bool false, .slice A0_1 l0_1.length c0_1] 27 (0, 0)) (by (with_reducible repeat (first | refine blk_drewN ?_ _ | refine blk_drew ?_ | refine blk_alloc ?_ _)); exact BK338.out) hb); have n3_ := Aside0.mk (blk_below (g := gb343) (o := .cells #[.bool t339, .slice Ao10 t340.length co10] 27 (0, 0)) (by (with_reducible repeat (first | refine blk_drewN ?_ _ | refine blk_drew ?_ | refine blk_alloc ?_ _)); exact BK343.out) hb); have n4_ := Aside0.mk (below_step (by repeat (first | (with_reducible first | exact HB.out | apply below_alloc | apply pw_below_drewN | apply below_drew1 | refine below_set ?_ GE338.out | refine below_set ?_ GE343.out) | exact HB.out)) hb); clear HO_344001; clear BK338; clear BK343; clear HB; have HO_344001 := n0_; have HO380 := n1_; have BK338 := n2_; have BK343 := n3_; have HB := n4_; clear n0_ n1_ n2_ n3_ n4_; clear hb ho83; obtain ⟨Ao84, co84, eo84⟩ := Kd.R_slice HO380.out; subst eo84))
     go_loopg [47] kj3 (fun kq v47 w' => ∃ (x10_2 : List Int) (x47_2 : Int), v47 = .int .i64 x47_2 ∧ Aside0 (spec_ToWords.l2 kq x7_3 x10_2 (y378.length : Int) x47_2 false l0_1 = some (r1, r2)) ∧ Aside0 (kq ≤ kj3) ∧ Aside0 (Kd.R (Kd.int .u64) 30 w' w.heap.size (fun _ => True) (.slice Ao84 y378.length co84) x10_2) ∧ Aside0 (Kd.V (Kd.int .u32) 22 w' w.heap.size (fun k_ => some k_ ≠ ((.slice Ao84 y378.length co84) : Value).ownBlock ∧ k_ ≠ gb338 ∧ k_ ≠ gb343) (.slice Ao10 t340.length co10) t340) ∧ Aside0 (w'.heap[gb338]? = some (.cells #[.bool false, (.slice A0_1 l0_1.length c0_1)] 27 (0, 0))) ∧ Aside0 (w'.heap[gb343]? = some (.cells #[.bool t339, (.slice Ao10 t340.length co10)] 27 (0, 0))) ∧ Aside0 (Below w.heap.size w w'))
     case atStart => exact ⟨(y378), (0), (by first | rfl | (simp; done) | (simp [*]; done)), H', ⟨Nat.le_refl _⟩, ⟨by (with_reducible repeat (first | apply Kd.R_alloc | apply Kd.R_drewN | apply Kd.R_drew)); exact HO380.out⟩, ⟨by (with_reducible repeat (first | apply Kd.V_alloc | apply Kd.V_drewN | apply Kd.V_drew)); exact Kd.V_mono HO_344001.out (fun _ hk => ⟨hk.2, ⟨hk.1.1, hk.1.2⟩⟩)⟩, ⟨by (with_reducible repeat (first | refine blk_drewN ?_ _ | refine blk_drew ?_ | refine blk_alloc ?_ _)); exact BK338.out⟩, ⟨by (with_reducible repeat (first | refine blk_drewN ?_ _ | refine blk_drew ?_ | refine blk_alloc ?_ _)); exact BK343.out⟩, ⟨by repeat (first | (with_reducible first | exact HB.out | apply below_alloc | apply pw_below_drewN | apply below_drew1 | refine below_set ?_ GE338.out | refine below_set ?_ GE343.out) | exact HB.out)⟩⟩
     case round =>
      clear H'
      try clear c1
      try clear c2
      try clear p2
      try clear c3
      try clear p3
      try clear q3
      try clear hx3
      try clear c5
      try clear c6
      try clear p6
      try clear q6
      try clear hx6
      try clear hf6
      try clear c7
      try clear c8
      try clear c13
      try clear c24
      try clear c25
      try clear c26
      try clear c29
      try clear c30
      try clear p37
      try clear q37
      try clear hx37
      try clear c57
      try clear c57b0
      try clear c58
      try clear c58b0
      try clear c59
      try clear c59b0
      try clear c60
      try clear c60b0
      try clear c61
      try clear c61b0
      try clear c63
      try clear c63b0
      try clear p64
      try clear c65
      try clear c65b0
      try clear c65b1
      try clear p67
      try clear q67
      try clear hx67
      try clear hf67
      try clear c68
      try clear c69
      try clear c70
      try clear c74
      try clear c75
      try clear c76
      try clear c78
      try clear c78b0
      try clear c78b1
      try clear c79
      try clear c79b0
      try clear c79b1
      try clear c80
      try clear hcz71_0
      try clear hcz71_1
      try clear hcz77_0
      try clear hcz77_1
      try clear hcz81_0
      try clear hcz81_1
      try clear hfz71_0
      try clear hfz71_1
      try clear hfz77_0
      try clear hfz77_1
      try clear hfz81_0
      try clear hfz81_1
      try clear hx375_0
      try clear hx376_0
      try clear hx67_0
      try clear p2
      try clear p375
      try clear p376
      try clear p6
      try clear p67
      try clear q375
      try clear q376
      try clear q67
      obtain ⟨x10_2, x47_2, rfl, HA, HK2, HO_10, HO_344001, BK338, BK343, HB⟩ := hrel
      have hl10_2 := (Kd.R_reads' HO_10.out).1
      rw [hl10_2] at HO_10
      (try simp only [hl10_2])
      (try simp only [hl10_2] at BK338)
      (try simp only [hl10_2] at BK343)
      (try simp only [hl10_2] at HO_344001)
      cases gk with
      | zero => exact absurd HA.out (by simp [spec_ToWords.l2])
      | succ k2 =>
       have H := HA.out
       clear HA
       simp only [spec_ToWords.l2] at H
       by_cases c85 : x47_2 < (y378.length : Int)
       ·rw [if_pos c85] at H
        have c85b0 : decide (x47_2 < (y378.length : Int)) = true := decide_eq_true c85
        rw [hl10_2] at c85b0
        clear c85
        have H' := Aside0.mk H
        clear H
        go_wp2
        go_loopg [12] k2 (fun kq v12 w' => ∃ (x10_3 : List Int) (x12_3 : Int), v12 = .int .i64 x12_3 ∧ Aside0 (spec_ToWords.l3 kq x7_3 x10_3 x47_2 x12_3 (y378.length : Int) x47_2 false l0_1 = some (r1, r2)) ∧ Aside0 (kq ≤ k2) ∧ Aside0 (Kd.R (Kd.int .u64) 30 w' w.heap.size (fun _ => True) (.slice Ao84 x10_2.length co84) x10_3) ∧ Aside0 (Kd.V (Kd.int .u32) 22 w' w.heap.size (fun k_ => some k_ ≠ ((.slice Ao84 x10_2.length co84) : Value).ownBlock ∧ k_ ≠ gb338 ∧ k_ ≠ gb343) (.slice Ao10 t340.length co10) t340) ∧ Aside0 (w'.heap[gb338]? = some (.cells #[.bool false, (.slice A0_1 l0_1.length c0_1)] 27 (0, 0))) ∧ Aside0 (w'.heap[gb343]? = some (.cells #[.bool t339, (.slice Ao10 t340.length co10)] 27 (0, 0))) ∧ Aside0 (Below w.heap.size w w'))
        case atStart => exact ⟨(x10_2), (0), (by first | rfl | (simp; done) | (simp [*]; done)), H', ⟨Nat.le_refl _⟩, ⟨by (try simp only [hl10_2]); (with_reducible repeat (first | apply Kd.R_alloc | apply Kd.R_drewN | apply Kd.R_drew)); exact HO_10.out⟩, ⟨by (try simp only [hl10_2]); (with_reducible repeat (first | apply Kd.V_alloc | apply Kd.V_drewN | apply Kd.V_drew)); exact HO_344001.out⟩, ⟨by (try simp only [hl10_2]); (with_reducible repeat (first | refine blk_drewN ?_ _ | refine blk_drew ?_ | refine blk_alloc ?_ _)); exact BK338.out⟩, ⟨by (try simp only [hl10_2]); (with_reducible repeat (first | refine blk_drewN ?_ _ | refine blk_drew ?_ | refine blk_alloc ?_ _)); exact BK343.out⟩, ⟨by repeat (first | (with_reducible first | exact HB.out | apply below_alloc | apply pw_below_drewN | apply below_drew1 | refine below_set ?_ GE338.out | refine below_set ?_ GE343.out) | exact HB.out)⟩⟩
        case round =>
         clear H'
         try clear c1
         try clear c2
         try clear p2
         try clear c3
         try clear p3
         try clear q3
         try clear hx3
         try clear c5
         try clear c6
         try clear p6
         try clear q6
         try clear hx6
         try clear hf6
         try clear c7
         try clear c8
         try clear c13
         try clear c24
         try clear c25
         try clear c26
         try clear c29
         try clear c30
         try clear p37
         try clear q37
         try clear hx37
         try clear c57
         try clear c57b0
         try clear c58
         try clear c58b0
         try clear c59
         try clear c59b0
         try clear c60
         try clear c60b0
         try clear c61
         try clear c61b0
         try clear c63
         try clear c63b0
         try clear p64
         try clear c65
         try clear c65b0
         try clear c65b1
         try clear p67
         try clear q67
         try clear hx67
         try clear hf67
         try clear c68
         try clear c69
         try clear c70
         try clear c74
         try clear c75
         try clear c76
         try clear c78
         try clear c78b0
         try clear c78b1
         try clear c79
         try clear c79b0
         try clear c79b1
         try clear c80
         try clear c85
         try clear c85b0
         try clear hcz71_0
         try clear hcz71_1
         try clear hcz77_0
         try clear hcz77_1
         try clear hcz81_0
         try clear hcz81_1
         try clear hfz71_0
         try clear hfz71_1
         try clear hfz77_0
         try clear hfz77_1
         try clear hfz81_0
         try clear hfz81_1
         try clear hx375_0
         try clear hx376_0
         try clear hx67_0
         try clear p2
         try clear p3
         try clear p37
         try clear p375
         try clear p376
         try clear p6
         try clear p64
         try clear p67
         try clear q3
         try clear q37
         try clear q375
         try clear q376
         try clear q6
         try clear q67
         obtain ⟨x10_3, x12_3, rfl, HA, HK3, HO_10, HO_344001, BK338, BK343, HB⟩ := hrel
         have hl10_3 := (Kd.R_reads' HO_10.out).1
         rw [hl10_3] at HO_10
         (try simp only [hl10_3])
         (try simp only [hl10_3] at BK338)
         (try simp only [hl10_3] at BK343)
         (try simp only [hl10_3] at HO_344001)
         cases gk with
         | zero => exact absurd HA.out (by simp [spec_ToWords.l3])
         | succ k3 =>
          have H := HA.out
          clear HA
          simp only [spec_ToWords.l3] at H
          by_cases c86 : x12_3 < 2
          ·rw [if_pos c86] at H
           have c86b0 : decide (x12_3 < 2) = true := decide_eq_true c86
           clear c86
           by_cases c87 : (wrap64 ((wrap64 (2 * x47_2)) + x12_3)) < (l0_1.length : Int)
           ·rw [if_pos c87] at H
            have c87b0 : decide ((wrap64 ((wrap64 (2 * x47_2)) + x12_3)) < (l0_1.length : Int)) = true := decide_eq_true c87
            clear c87
            by_cases c88 : 0 ≤ x47_2
            ·rw [if_pos c88] at H
             have c88b0 : decide (0 ≤ x47_2) = true := decide_eq_true c88
             clear c88
             by_cases c89 : x47_2 < (x10_3.length : Int)
             ·rw [if_pos c89] at H
              have c89b0 : decide (x47_2 < (x10_3.length : Int)) = true := decide_eq_true c89
              clear c89
              obtain ⟨ji90, hji90⟩ : ∃ j_ : Int, (wrap64 ((wrap64 (2 * x47_2)) + x12_3)) = j_ := ⟨_, rfl⟩
              replace H : (if 0 ≤ (ji90) then (if 0 ≤ (wrap64 (32 * x12_3)) then (spec_ToWords.l3 k3 x7_3 (x10_3.set (x47_2 : Int).toNat (Go.bits .or .u64 (rd x10_3 x47_2) (shl .u64 (IntKind.u64.wrap (rd l0_1 (ji90))) (wrap64 (32 * x12_3))))) x47_2 (wrap64 (x12_3 + 1)) (y378.length : Int) x47_2 false l0_1) else (none)) else (none)) = some (r1, r2) := by first | (rw [hji90] at H; exact H) | (simp only [hji90] at H ⊢; exact H)
              (try rw [hji90] at c87b0)
              have hji90w : (IntKind.i64.wrap ((wrap64 (2 * x47_2)) + x12_3)) = ji90 := (i64_w _).trans hji90
              by_cases c91 : 0 ≤ (ji90)
              ·rw [if_pos c91] at H
               have c91b0 : decide (0 ≤ (ji90)) = true := decide_eq_true c91
               clear c91
               obtain ⟨ji92, hji92⟩ : ∃ j_ : Int, (wrap64 (32 * x12_3)) = j_ := ⟨_, rfl⟩
               replace H : (if 0 ≤ (ji92) then (spec_ToWords.l3 k3 x7_3 (x10_3.set (x47_2 : Int).toNat (Go.bits .or .u64 (rd x10_3 x47_2) (shl .u64 (IntKind.u64.wrap (rd l0_1 (ji90))) (ji92)))) x47_2 (wrap64 (x12_3 + 1)) (y378.length : Int) x47_2 false l0_1) else (none)) = some (r1, r2) := by first | (rw [hji92] at H; exact H) | (simp only [hji92] at H ⊢; exact H)
               have hji92w : (IntKind.i64.wrap (32 * x12_3)) = ji92 := (i64_w _).trans hji92
               by_cases c93 : 0 ≤ (ji92)
               ·rw [if_pos c93] at H
                have c93b0 := eq_true c93
                have c93b1 : decide (0 ≤ (ji92)) = true := decide_eq_true c93
                clear c93
                obtain ⟨ji94, hji94⟩ : ∃ j_ : Int, (shl .u64 (IntKind.u64.wrap (rd l0_1 (ji90))) (ji92)) = j_ := ⟨_, rfl⟩
                replace H : (spec_ToWords.l3 k3 x7_3 (x10_3.set (x47_2 : Int).toNat (Go.bits .or .u64 (rd x10_3 x47_2) (ji94))) x47_2 (wrap64 (x12_3 + 1)) (y378.length : Int) x47_2 false l0_1) = some (r1, r2) := by first | (rw [hji94] at H; exact H) | (simp only [hji94] at H ⊢; exact H)
                have hji94_ : (IntKind.u64.wrap ((IntKind.u64.wrap (rd l0_1 (ji90))) * 2 ^ min (ji92).toNat 64)) = ji94 := hji94
                have hji94z : (ji92) ≤ 64 → (IntKind.u64.wrap ((IntKind.u64.wrap (rd l0_1 (ji90))) * 2 ^ (ji92).toNat)) = ji94 := shl_small hji94
                obtain ⟨y383, hy383⟩ : ∃ y_ : List Int, y_ = (x10_3.set (x47_2 : Int).toNat (Go.bits .or .u64 (rd x10_3 x47_2) (ji94))) := ⟨_, rfl⟩
                replace H : (spec_ToWords.l3 k3 x7_3 y383 x47_2 (wrap64 (x12_3 + 1)) (y378.length : Int) x47_2 false l0_1) = some (r1, r2) := by first | (rw [hy383]; with_reducible exact H) | (have H2_ := (Option.bind_some _ _).symm.trans H; rw [hy383]; with_reducible exact H2_) | (have H2_ := (Option.bind_some _ _).symm.trans H; with_reducible exact H2_) | with_reducible exact H | (rw [hy383]; exact H) | exact H
                have Ny383 := Aside0.mk hy383
                clear hy383
                have H' := Aside0.mk H
                clear H
                have hnb96 := NB338_343.out
                have hnc96 := NB343_338.out
                have hcz97_0 : wr.cell? ⟨gb338, 0, none⟩ = some (.bool false) := (blk_cell BK338.out 0).trans rfl
                have hcz97_1 : wr.cell? ⟨gb338, 1, none⟩ = some (.slice A0_1 l0_1.length c0_1) := (blk_cell BK338.out 1).trans rfl
                have hfz97_0 := blk_frozen BK338.out 0
                have hfz97_1 := blk_frozen BK338.out 1
                try go_wp2
                have n0_ := Aside0.mk (Kd.R_drew HO_10.out)
                have n1_ := Aside0.mk (Kd.V_drew HO_344001.out)
                have n2_ := Aside0.mk (blk_drew BK338.out)
                have n3_ := Aside0.mk (blk_drew BK343.out)
                have n4_ := Aside0.mk (below_drew1 HB.out)
                clear HO_10 HO_344001 BK338 BK343 HB
                have HO_10 := n0_
                have HO_344001 := n1_
                have BK338 := n2_
                have BK343 := n3_
                have HB := n4_
                clear n0_ n1_ n2_ n3_ n4_
                have p381 : 0 ≤ (x47_2 : Int) := of_decide_eq_true (by first | (with_reducible assumption) | assumption)
                have q381 : x47_2 < (x10_3.length : Int) := of_decide_eq_true (by first | (with_reducible assumption) | assumption)
                obtain ⟨ad381, e381, hx381_0⟩ := Kd.at_int (Kd.R_reads' HO_10.out).2.2 x47_2 p381 q381
                cases e381
                replace p381 := eq_true p381
                replace q381 := eq_true q381
                have p382 : 0 ≤ ((ji90) : Int) := of_decide_eq_true (by first | (with_reducible assumption) | assumption)
                have q382 : (ji90) < (l0_1.length : Int) := of_decide_eq_true (by first | (with_reducible assumption) | assumption)
                obtain ⟨ad382, e382, hx382_0⟩ := Kd.at_int HR0_1.out (ji90) p382 q382
                have hw382_0 := hx382_0
                cases e382
                replace hx382_0 := (HB.out.cell (World.block_lt_of_cell? w _ hx382_0)).trans hx382_0
                replace p382 := eq_true p382
                replace q382 := eq_true q382
                have p95 : 0 ≤ (x47_2 : Int) := of_decide_eq_true (by first | (with_reducible assumption) | assumption)
                have q95 : (x47_2 : Int) < ((x10_3.length : Int) : Int) := of_decide_eq_true (by first | (with_reducible assumption) | assumption)
                obtain ⟨go95, co95, eo95, gb95, gl95, cl95, HG95⟩ := Kd.R_form HO_10.out (by omega)
                (first | cases eo95 | (injection eo95 with ea_ en_ ec_; (first | subst ea_ | (injection ea_ with ea_; subst ea_)); subst ec_; clear en_))
                have GB95 := Aside0.mk gb95
                have GG95 := Aside0.mk HG95
                clear gb95 gl95 HG95
                (first | simp only [add_plain] at hx381_0 | skip)
                obtain ⟨hx95_0, hf95_0⟩ := Kd.R_celln 0 HO_10.out (x47_2 : Int) p95 q95
                replace p95 := eq_true p95
                replace q95 := eq_true q95
                have HP99 := Kd.R_putn HO_10.out (x47_2 : Int) (Go.bits .or .u64 (rd x10_3 x47_2) (ji94))
                rw [← Ny383.out] at HP99
                have HQ99 := Aside0.mk HP99
                clear HP99
                refine start_ (n := 19) (S := fun w' => w'.cell? ⟨gb338, 0, none⟩ = some (.bool false) ∧ w'.cell? ⟨gb338, 1, none⟩ = some (.slice (some ad382) l0_1.length c0_1) ∧ w'.cell? ⟨go95, (x47_2).toNat, none⟩ = some (.int .u64 (rd x10_3 x47_2)) ∧ w'.cell? (ad382.add ((ji90)).toNat) = some (.int .u32 (rd l0_1 (ji90)))) (ds := [18]) #[false, false, false, false, false, false, false, false, false, false, false, false, false, false, false, false, false, false, false] (by kernel_rfl) rfl rfl ⟨(blk_cell BK338.out 0).trans rfl, (blk_cell BK338.out 1).trans rfl, hx381_0, ((HB.out.cell (World.block_lt_of_cell? w _ hw382_0)).trans hw382_0)⟩ (fun hHeld => ?_); refine with_tabW spec_ToWords.tab14 spec_ToWords.bits14 (fun HT_ HW_ => ?_)
                generalize wr.drew = w98 at HO_10 HO_344001 BK338 BK343 HB GG95 HQ99 hf95_0 hx381_0 hx382_0 hx95_0 hHeld ⊢
                refine pure_ (i := 0) (N := some 62) (v := ?_) (a' := ?_) #[true, false, false, false, false, false, false, false, false, false, false, false, false, false, false, false, false, false, false] rfl rfl (any_of HT_.out (by kernel_rfl)) (fun _ _ _ h => h) (Or.inl ⟨by rfl, ?_⟩) ?_ ?_
                rotate_left
                ·intro w'
                 go_simp
                 with_reducible rfl
                rotate_left
                ·simp only [Act.put, List.setIfInBounds_toArray, List.set_cons_zero, List.set_cons_succ, i64_w, i32_w]
                 rfl
                refine pure_ (i := 1) (N := some 63) (v := ?_) (a' := ?_) #[true, true, false, false, false, false, false, false, false, false, false, false, false, false, false, false, false, false, false] rfl rfl (any_of HT_.out (by kernel_rfl)) (fun _ _ _ h => h) (Or.inl ⟨by rfl, ?_⟩) ?_ ?_
                rotate_left
                ·intro w'
                 go_simp
                 with_reducible rfl
                rotate_left
                ·simp only [Act.put, List.setIfInBounds_toArray, List.set_cons_zero, List.set_cons_succ, i64_w, i32_w]
                 rfl
                refine pure_ (i := 2) (N := some 64) (v := ?_) (a' := ?_) #[true, true, true, false, false, false, false, false, false, false, false, false, false, false, false, false, false, false, false] rfl rfl (any_of HT_.out (by kernel_rfl)) (fun _ _ _ h => h) (Or.inl ⟨by rfl, ?_⟩) ?_ ?_
                rotate_left
                ·intro w'
                 go_simp
                 with_reducible rfl
                rotate_left
                ·simp only [Act.put, List.setIfInBounds_toArray, List.set_cons_zero, List.set_cons_succ, i64_w, i32_w]
                 rfl
                refine pure_ (i := 4) (N := some 66) (v := ?_) (a' := ?_) #[true, true, true, false, true, false, false, false, false, false, false, false, false, false, false, false, false, false, false] rfl rfl (any_of HT_.out (by kernel_rfl)) (fun _ _ _ h => h) (Or.inl ⟨by rfl, ?_⟩) ?_ ?_
                rotate_left
                ·intro w'
                 go_simp
                 with_reducible rfl
                rotate_left
                ·simp only [Act.put, List.setIfInBounds_toArray, List.set_cons_zero, List.set_cons_succ, i64_w, i32_w]
                 rfl
                refine pure_ (i := 6) (N := some 68) (v := ?_) (a' := ?_) #[true, true, true, false, true, false, true, false, false, false, false, false, false, false, false, false, false, false, false] rfl rfl (any_of HT_.out (by kernel_rfl)) (fun _ _ _ h => h) (Or.inl ⟨by rfl, ?_⟩) ?_ ?_
                rotate_left
                ·intro w'
                 go_simp
                 with_reducible rfl
                rotate_left
                ·simp only [Act.put, List.setIfInBounds_toArray, List.set_cons_zero, List.set_cons_succ, i64_w, i32_w]
                 rfl
                refine pure_ (i := 7) (N := some 69) (v := ?_) (a' := ?_) #[true, true, true, false, true, false, true, true, false, false, false, false, false, false, false, false, false, false, false] rfl rfl (any_of HT_.out (by kernel_rfl)) (fun _ _ _ h => h) (Or.inl ⟨by rfl, ?_⟩) ?_ ?_
                rotate_left
                ·intro w'
                 go_simp
                 with_reducible rfl
                rotate_left
                ·simp only [Act.put, List.setIfInBounds_toArray, List.set_cons_zero, List.set_cons_succ, i64_w, i32_w]
                 rfl
                refine pure_ (i := 8) (N := some 70) (v := ?_) (a' := ?_) #[true, true, true, false, true, false, true, true, true, false, false, false, false, false, false, false, false, false, false] rfl rfl (any_of HT_.out (by kernel_rfl)) (fun _ _ _ h => h) (Or.inl ⟨by rfl, ?_⟩) ?_ ?_
                rotate_left
                ·intro w'
                 go_simp
                 with_reducible rfl
                rotate_left
                ·simp only [Act.put, List.setIfInBounds_toArray, List.set_cons_zero, List.set_cons_succ, i64_w, i32_w]
                 rfl
                refine pure_ (i := 9) (N := some 71) (v := ?_) (a' := ?_) #[true, true, true, false, true, false, true, true, true, true, false, false, false, false, false, false, false, false, false] rfl rfl (any_of HT_.out (by kernel_rfl)) (fun _ _ _ h => h) (Or.inl ⟨by rfl, ?_⟩) ?_ ?_
                rotate_left
                ·intro w'
                 go_simp
                 with_reducible rfl
                rotate_left
                ·simp only [Act.put, List.setIfInBounds_toArray, List.set_cons_zero, List.set_cons_succ, i64_w, i32_w]
                 rfl
                refine pure_ (i := 13) (N := some 75) (v := ?_) (a' := ?_) #[true, true, true, false, true, false, true, true, true, true, false, false, false, true, false, false, false, false, false] rfl rfl (any_of HT_.out (by kernel_rfl)) (fun _ _ _ h => h) (Or.inl ⟨by rfl, ?_⟩) ?_ ?_
                rotate_left
                ·intro w'
                 go_simp
                 with_reducible rfl
                rotate_left
                ·simp only [Act.put, List.setIfInBounds_toArray, List.set_cons_zero, List.set_cons_succ, i64_w, i32_w]
                 rfl
                refine pure_ (i := 14) (N := some 76) (v := ?_) (a' := ?_) #[true, true, true, false, true, false, true, true, true, true, false, false, false, true, true, false, false, false, false] rfl rfl (any_of HT_.out (by kernel_rfl)) (fun _ _ _ h => h) (Or.inl ⟨by rfl, ?_⟩) ?_ ?_
                rotate_left
                ·intro w'
                 go_simp
                 with_reducible rfl
                rotate_left
                ·simp only [Act.put, List.setIfInBounds_toArray, List.set_cons_zero, List.set_cons_succ, i64_w, i32_w]
                 rfl
                refine take_ (i := 3) (N := some 65) (v := ?_) (a' := ?_) #[true, true, true, true, true, false, true, true, true, true, false, false, false, true, true, false, false, false, false] rfl rfl (take_ofW HT_.out HW_.out (by kernel_rfl)) (fun _ _ _ h => h) (Or.inl ⟨by rfl, ?_⟩) hHeld ?_ ?_
                rotate_left
                ·rintro w' ⟨s0, s1, s2, s3⟩
                 go_simp
                 with_reducible rfl
                rotate_left
                ·simp only [Act.put, List.setIfInBounds_toArray, List.set_cons_zero, List.set_cons_succ, i64_w, i32_w]
                 rfl
                refine take_ (i := 5) (N := some 67) (v := ?_) (a' := ?_) #[true, true, true, true, true, true, true, true, true, true, false, false, false, true, true, false, false, false, false] rfl rfl (take_ofW HT_.out HW_.out (by kernel_rfl)) (fun _ _ _ h => h) (Or.inl ⟨by rfl, ?_⟩) hHeld ?_ ?_
                rotate_left
                ·rintro w' ⟨s0, s1, s2, s3⟩
                 go_simp
                 with_reducible rfl
                rotate_left
                ·simp only [Act.put, List.setIfInBounds_toArray, List.set_cons_zero, List.set_cons_succ, i64_w, i32_w]
                 rfl
                refine pure_ (i := 10) (N := some 72) (v := ?_) (a' := ?_) #[true, true, true, true, true, true, true, true, true, true, true, false, false, true, true, false, false, false, false] rfl rfl (any_of HT_.out (by kernel_rfl)) (fun _ _ _ h => h) (Or.inl ⟨by rfl, ?_⟩) ?_ ?_
                rotate_left
                ·intro w'
                 go_simp
                 with_reducible rfl
                rotate_left
                ·simp only [Act.put, List.setIfInBounds_toArray, List.set_cons_zero, List.set_cons_succ, i64_w, i32_w]
                 rfl
                refine take_ (i := 11) (N := some 73) (v := ?_) (a' := ?_) #[true, true, true, true, true, true, true, true, true, true, true, true, false, true, true, false, false, false, false] rfl rfl (take_ofW HT_.out HW_.out (by kernel_rfl)) (fun _ _ _ h => h) (Or.inl ⟨by rfl, ?_⟩) hHeld ?_ ?_
                rotate_left
                ·rintro w' ⟨s0, s1, s2, s3⟩
                 go_simp
                 with_reducible rfl
                rotate_left
                ·simp only [Act.put, List.setIfInBounds_toArray, List.set_cons_zero, List.set_cons_succ, i64_w, i32_w]
                 rfl
                refine pure_ (i := 12) (N := some 74) (v := ?_) (a' := ?_) #[true, true, true, true, true, true, true, true, true, true, true, true, true, true, true, false, false, false, false] rfl rfl (any_of HT_.out (by kernel_rfl)) (fun _ _ _ h => h) (Or.inl ⟨by rfl, ?_⟩) ?_ ?_
                rotate_left
                ·intro w'
                 go_simp
                 with_reducible rfl
                rotate_left
                ·simp only [Act.put, List.setIfInBounds_toArray, List.set_cons_zero, List.set_cons_succ, i64_w, i32_w]
                 rfl
                refine pure_ (i := 15) (N := some 77) (v := ?_) (a' := ?_) #[true, true, true, true, true, true, true, true, true, true, true, true, true, true, true, true, false, false, false] rfl rfl (any_of HT_.out (by kernel_rfl)) (fun _ _ _ h => h) (Or.inl ⟨by rfl, ?_⟩) ?_ ?_
                rotate_left
                ·intro w'
                 go_simp
                 with_reducible rfl
                rotate_left
                ·simp only [Act.put, List.setIfInBounds_toArray, List.set_cons_zero, List.set_cons_succ, i64_w, i32_w]
                 rfl
                refine pure_ (i := 16) (N := some 78) (v := ?_) (a' := ?_) #[true, true, true, true, true, true, true, true, true, true, true, true, true, true, true, true, true, false, false] rfl rfl (any_of HT_.out (by kernel_rfl)) (fun _ _ _ h => h) (Or.inl ⟨by rfl, ?_⟩) ?_ ?_
                rotate_left
                ·intro w'
                 go_simp
                 with_reducible rfl
                rotate_left
                ·simp only [Act.put, List.setIfInBounds_toArray, List.set_cons_zero, List.set_cons_succ, i64_w, i32_w]
                 rfl
                refine pure_ (i := 17) (N := some 79) (v := ?_) (a' := ?_) #[true, true, true, true, true, true, true, true, true, true, true, true, true, true, true, true, true, true, false] rfl rfl (any_of HT_.out (by kernel_rfl)) (fun _ _ _ h => h) (Or.inl ⟨by rfl, ?_⟩) ?_ ?_
                rotate_left
                ·intro w'
                 go_simp
                 with_reducible rfl
                rotate_left
                ·simp only [Act.put, List.setIfInBounds_toArray, List.set_cons_zero, List.set_cons_succ, i64_w, i32_w]
                 rfl
                refine last_ (i := 18) (N := none) #[true, true, true, true, true, true, true, true, true, true, true, true, true, true, true, true, true, true, true] rfl rfl (one_of HT_.out (by kernel_rfl)) (by decide) (fun K hK => ?_)
                refine skip_ (w1 := ?_) (by rfl) rfl ?_ ?_
                rotate_left
                ·go_simp
                 rfl
                refine hK.out _ _ ?_
                clear hK K
                refine done_ (done_of HT_.out (by kernel_rfl)) ?_
                try go_wp2
                (try simp only [← hl10_3])
                go_roundg k3
                case measure => have := HJ3.out; have := HK2.out; have := HK3.out; omega
                case rel => exact ⟨(y383), (wrap64 (x12_3 + 1)), (by first | rfl | (simp; done) | (simp [*]; done)), H', ⟨by have := HJ3.out; have := HK2.out; have := HK3.out; omega⟩, ⟨by (try simp only [hl10_2]); (try simp only [hl10_3]); (with_reducible repeat (first | apply Kd.R_alloc | apply Kd.R_drewN | apply Kd.R_drew)); exact HQ99.out⟩, ⟨by (try simp only [hl10_2]); (try simp only [hl10_3]); (with_reducible repeat (first | apply Kd.V_alloc | apply Kd.V_drewN | apply Kd.V_drew)); exact Kd.V_mono (Kd.V_far (p := ⟨go95, (x47_2 : Int).toNat, none⟩) (Kd.V_mono HO_344001.out (fun k_ hk => (⟨hk, fun e_ => hk.1 (by rw [e_]; rfl)⟩ : _ ∧ k_ ≠ go95))) (fun _ hk => hk.2) (.int .u64 (Go.bits .or .u64 (rd x10_3 x47_2) (ji94)))) (fun _ hk => ⟨hk.1.1, ⟨hk.1.2.1, hk.1.2.2⟩⟩)⟩, ⟨by (try simp only [hl10_2]); (try simp only [hl10_3]); (with_reducible repeat (first | refine blk_drewN ?_ _ | refine blk_drew ?_ | refine blk_alloc ?_ _)); refine blk_far ?_ (by have h_ := Kd.R_ne HO_10.out BK338.out (by decide); intro e_; exact h_ (by rw [e_]; rfl)) _; (with_reducible repeat (first | refine blk_drewN ?_ _ | refine blk_drew ?_ | refine blk_alloc ?_ _)); exact BK338.out⟩, ⟨by (try simp only [hl10_2]); (try simp only [hl10_3]); (with_reducible repeat (first | refine blk_drewN ?_ _ | refine blk_drew ?_ | refine blk_alloc ?_ _)); refine blk_far ?_ (by have h_ := Kd.R_ne HO_10.out BK343.out (by decide); intro e_; exact h_ (by rw [e_]; rfl)) _; (with_reducible repeat (first | refine blk_drewN ?_ _ | refine blk_drew ?_ | refine blk_alloc ?_ _)); exact BK343.out⟩, ⟨by repeat (first | (with_reducible first | exact HB.out | apply below_alloc | apply pw_below_drewN | apply below_drew1 | refine below_set ?_ GB95.out | refine below_set ?_ GE338.out | refine below_set ?_ GE343.out) | exact HB.out)⟩⟩
               ·rw [if_neg c93] at H
                exact absurd H (by simp)
              ·rw [if_neg c91] at H
               exact absurd H (by simp)
             ·rw [if_neg c89] at H
              exact absurd H (by simp)
            ·rw [if_neg c88] at H
             exact absurd H (by simp)
           ·rw [if_neg c87] at H
            have c87b0 : decide ((wrap64 ((wrap64 (2 * x47_2)) + x12_3)) < (l0_1.length : Int)) = false := decide_eq_false c87
            clear c87
            have H' := Aside0.mk H
            clear H
            have hnb100 := NB338_343.out
            have hnc100 := NB343_338.out
            have hcz101_0 : wr.cell? ⟨gb338, 0, none⟩ = some (.bool false) := (blk_cell BK338.out 0).trans rfl
            have hcz101_1 : wr.cell? ⟨gb338, 1, none⟩ = some (.slice A0_1 l0_1.length c0_1) := (blk_cell BK338.out 1).trans rfl
            have hfz101_0 := blk_frozen BK338.out 0
            have hfz101_1 := blk_frozen BK338.out 1
            go_wp2
            (try simp only [← hl10_3])
            go_roundg k3
            case measure => have := HJ3.out; have := HK2.out; have := HK3.out; omega
            case rel => exact ⟨(x10_3), (wrap64 (x12_3 + 1)), (by first | rfl | (simp; done) | (simp [*]; done)), H', ⟨by have := HJ3.out; have := HK2.out; have := HK3.out; omega⟩, ⟨by (try simp only [hl10_2]); (try simp only [hl10_3]); (with_reducible repeat (first | apply Kd.R_alloc | apply Kd.R_drewN | apply Kd.R_drew)); exact HO_10.out⟩, ⟨by (try simp only [hl10_2]); (try simp only [hl10_3]); (with_reducible repeat (first | apply Kd.V_alloc | apply Kd.V_drewN | apply Kd.V_drew)); exact HO_344001.out⟩, ⟨by (try simp only [hl10_2]); (try simp only [hl10_3]); (with_reducible repeat (first | refine blk_drewN ?_ _ | refine blk_drew ?_ | refine blk_alloc ?_ _)); exact BK338.out⟩, ⟨by (try simp only [hl10_2]); (try simp only [hl10_3]); (with_reducible repeat (first | refine blk_drewN ?_ _ | refine blk_drew ?_ | refine blk_alloc ?_ _)); exact BK343.out⟩, ⟨by repeat (first | (with_reducible first | exact HB.out | apply below_alloc | apply pw_below_drewN | apply below_drew1 | refine below_set ?_ GE338.out | refine below_set ?_ GE343.out) | exact HB.out)⟩⟩
          ·rw [if_neg c86] at H
           have c86b0 : decide (x12_3 < 2) = false := decide_eq_false c86
           clear c86
           have H' := Aside0.mk H
           clear H
           go_wp2
           (try simp only [← hl10_2, ← hl10_3])
           go_roundg k3
           case measure => have := HJ3.out; have := HK2.out; have := HK3.out; omega
           case rel => exact ⟨(x10_3), (wrap64 (x47_2 + 1)), (by first | rfl | (simp; done) | (simp [*]; done)), H', ⟨by have := HJ3.out; have := HK2.out; have := HK3.out; omega⟩, ⟨by (try simp only [hl10_2]); (try simp only [hl10_3]); (with_reducible repeat (first | apply Kd.R_alloc | apply Kd.R_drewN | apply Kd.R_drew)); exact HO_10.out⟩, ⟨by (try simp only [hl10_2]); (try simp only [hl10_3]); (with_reducible repeat (first | apply Kd.V_alloc | apply Kd.V_drewN | apply Kd.V_drew)); exact HO_344001.out⟩, ⟨by (try simp only [hl10_2]); (try simp only [hl10_3]); (with_reducible repeat (first | refine blk_drewN ?_ _ | refine blk_drew ?_ | refine blk_alloc ?_ _)); exact BK338.out⟩, ⟨by (try simp only [hl10_2]); (try simp only [hl10_3]); (with_reducible repeat (first | refine blk_drewN ?_ _ | refine blk_drew ?_ | refine blk_alloc ?_ _)); exact BK343.out⟩, ⟨by repeat (first | (with_reducible first | exact HB.out | apply below_alloc | apply pw_below_drewN | apply below_drew1 | refine below_set ?_ GE338.out | refine below_set ?_ GE343.out) | exact HB.out)⟩⟩
       ·rw [if_neg c85] at H
        have c85b0 : decide (x47_2 < (y378.length : Int)) = false := decide_eq_false c85
        rw [hl10_2] at c85b0
        clear c85
        simp only [Option.some.injEq, Prod.mk.injEq] at H
        obtain ⟨rfl, rfl⟩ := H
        go_wp2
        go_ret2
        exact ⟨_, by first | rfl | (simp [errW_none, errW_some] <;> rfl) | (simp [*, errW_none, errW_some] <;> rfl), by (with_reducible repeat (first | apply Kd.R_alloc | apply Kd.R_drewN | apply Kd.R_drew)); exact HO_10.out, by repeat (first | (with_reducible first | exact HB.out | apply below_alloc | apply pw_below_drewN | apply below_drew1 | refine below_set ?_ GE338.out | refine below_set ?_ GE343.out) | exact HB.out)⟩
    ·rw [if_neg c79] at H
     exact absurd H (by simp)
   ·rw [if_neg c78] at H
    exact absurd H (by simp)
end Go.Proofs.YtgomeiepiajpeaaGreat.Q
