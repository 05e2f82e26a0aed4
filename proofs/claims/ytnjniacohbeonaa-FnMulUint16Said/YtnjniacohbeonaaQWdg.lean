-- written by programs of ours (wip/tools) out of the kit's printer: the functions of one law, less those that are shared or proved by hand
import Derived.Test.YtnjniacohbeonaaMuA
import Derived.Test.YtnjniacohbeonaaQ0
import Derived.Test.YtnjniacohbeonaaQWdc
import Derived.Test.YtnjniacohbeonaaQWde
import Derived.Test.YtnjniacohbeonaaQWdf
namespace Go.Proofs.Ytnjniacohbeonaa.Q
open Go.RowKit Go.Proofs.YtnjniacohbeonaaW.PrintWords Go.Proofs.YtnjniacohbeonaaW.PrintLast Go.Proofs.YtnjniacohbeonaaW.PrintMore
attribute [local go_sem] max2_int min2_int max_two min_two max_three min_three max_four min_four
set_option linter.unusedVariables false
set_option linter.unusedSimpArgs false
def laws_FnMulUint16.f (k : Nat) (a0 : Int) (a1 : Int) : Option (Bool) := (laws_bounds.f k 16 false).bind fun z81 => ((spec_WideUint.f k (IntKind.u64.wrap (a0))).bind fun z91 => ((spec_WideUint.f k (IntKind.u64.wrap (a1))).bind fun z95 => ((spec_WideMul.f k z91.1 z91.2 z95.1 z95.2).bind fun z99 => ((laws_fitted.f k z99.1 z99.2 z81.1 z81.2.1 z81.2.2.1 z81.2.2.2).bind fun z03 => ((impl_MulUint16.f a0 a1).bind fun z05 => ((impl_MulUint16.f 2 3).bind fun z07 => (if (z05.2 == z03.2) = true then (if z03.2 = true then (if z05.1 = (IntKind.u16.wrap (z03.1)) then (if z07.2 = true then (some (z07.1 == 6)) else (some false)) else (some false)) else (if z07.2 = true then (some (z07.1 == 6)) else (some false))) else (some false))))))))
theorem laws_FnMulUint16.mono : ∀ a0 a1 k, LeO (laws_FnMulUint16.f k a0 a1) (laws_FnMulUint16.f (k + 1) a0 a1) := by
 intro a0 a1 k
 unfold laws_FnMulUint16.f
 repeat' first
   | (with_reducible exact laws_bounds.mono _ _ _)
   | (with_reducible exact laws_fitted.mono _ _ _ _ _ _ _)
   | (with_reducible exact spec_WideMul.mono _ _ _ _ _)
   | (with_reducible exact spec_WideUint.mono _ _)
   | (with_reducible exact LeO.refl _)
   | (with_reducible exact LeO.none _)
   | (with_reducible refine LeO.ite ?_ ?_)
   | (with_reducible refine LeO.bind ?_ (fun _ => ?_))
   | exact laws_bounds.mono _ _ _
   | exact laws_fitted.mono _ _ _ _ _ _ _
   | exact spec_WideMul.mono _ _ _ _ _
   | exact spec_WideUint.mono _ _
   | exact LeO.none _
   | refine LeO.ite ?_ ?_
   | refine LeO.bind ?_ (fun _ => ?_)
def laws_FnMulUint16.T2 : Bool × List (List Nat × List Nat) := (true, [([], []), ([0], [0]), ([1], [1]), ([], []), ([3], [3]), ([4, 2], [4]), ([2, 5, 5], [2, 5]), ([], []), ([], []), ([6, 7, 8, 6], [6, 7, 8]), ([9], [9]), ([10], [10]), ([10], [10]), ([11, 9, 0, 1, 2, 3, 4, 5, 6, 7, 8, 9, 10, 11], [11]), ([12, 13, 0, 1, 2, 3, 4, 5, 6, 7, 8, 9, 10, 11, 12, 13], [12])])
def laws_FnMulUint16.B2 : List Nat := [0, 1, 3, 0, 8, 31, 63, 0, 0, 511, 1023, 2047, 2047, 4095, 16383]
theorem laws_FnMulUint16.tab2 : rtab .any (opsOf Try.f12 2) = laws_FnMulUint16.T2 := by kernel_rfl
theorem laws_FnMulUint16.bits2 : waitsOk laws_FnMulUint16.T2.2 laws_FnMulUint16.B2 = true := by kernel_rfl
set_option maxHeartbeats 8000000 in
set_option maxRecDepth 100000 in
theorem laws_FnMulUint16.calls (k : Nat) (a0 : Int) (a1 : Int) (r : Bool) (w : World) (h : laws_FnMulUint16.f k a0 a1 = some r) :
  Calls Try.prog 12 #[.int .u16 a0, .int .u16 a1] w fun e w' => e = .returned (.bool r) ∧ Below w.heap.size w w' := by
 have hu27 := Try.underlying27
 have HB := Aside0.mk (Below.refl w.heap.size w)
 have H : ((laws_bounds.f k 16 false).bind fun z81 => ((spec_WideUint.f k (IntKind.u64.wrap (a0))).bind fun z91 => ((spec_WideUint.f k (IntKind.u64.wrap (a1))).bind fun z95 => ((spec_WideMul.f k z91.1 z91.2 z95.1 z95.2).bind fun z99 => ((laws_fitted.f k z99.1 z99.2 z81.1 z81.2.1 z81.2.2.1 z81.2.2.2).bind fun z03 => ((impl_MulUint16.f a0 a1).bind fun z05 => ((impl_MulUint16.f 2 3).bind fun z07 => (if (z05.2 == z03.2) = true then (if z03.2 = true then (if z05.1 = (IntKind.u16.wrap (z03.1)) then (if z07.2 = true then (some (z07.1 == 6)) else (some false)) else (some false)) else (if z07.2 = true then (some (z07.1 == 6)) else (some false))) else (some false))))))))) = some r := h
 clear h
 replace H := Option.bind_eq_some_iff.mp H
 obtain ⟨⟨t381, t382, t385, t386⟩, A30, H⟩ := H
 replace H : ((spec_WideUint.f k (IntKind.u64.wrap (a0))).bind fun z91 => ((spec_WideUint.f k (IntKind.u64.wrap (a1))).bind fun z95 => ((spec_WideMul.f k z91.1 z91.2 z95.1 z95.2).bind fun z99 => ((laws_fitted.f k z99.1 z99.2 t381 t382 t385 t386).bind fun z03 => ((impl_MulUint16.f a0 a1).bind fun z05 => ((impl_MulUint16.f 2 3).bind fun z07 => (if (z05.2 == z03.2) = true then (if z03.2 = true then (if z05.1 = (IntKind.u16.wrap (z03.1)) then (if z07.2 = true then (some (z07.1 == 6)) else (some false)) else (some false)) else (if z07.2 = true then (some (z07.1 == 6)) else (some false))) else (some false)))))))) = some r := H
 have A3 := Aside0.mk A30
 clear A30
 replace H := Option.bind_eq_some_iff.mp H
 obtain ⟨⟨t391, t392⟩, A40, H⟩ := H
 replace H : ((spec_WideUint.f k (IntKind.u64.wrap (a1))).bind fun z95 => ((spec_WideMul.f k t391 t392 z95.1 z95.2).bind fun z99 => ((laws_fitted.f k z99.1 z99.2 t381 t382 t385 t386).bind fun z03 => ((impl_MulUint16.f a0 a1).bind fun z05 => ((impl_MulUint16.f 2 3).bind fun z07 => (if (z05.2 == z03.2) = true then (if z03.2 = true then (if z05.1 = (IntKind.u16.wrap (z03.1)) then (if z07.2 = true then (some (z07.1 == 6)) else (some false)) else (some false)) else (if z07.2 = true then (some (z07.1 == 6)) else (some false))) else (some false))))))) = some r := H
 have A4 := Aside0.mk A40
 clear A40
 replace H := Option.bind_eq_some_iff.mp H
 obtain ⟨⟨t395, t396⟩, A50, H⟩ := H
 replace H : ((spec_WideMul.f k t391 t392 t395 t396).bind fun z99 => ((laws_fitted.f k z99.1 z99.2 t381 t382 t385 t386).bind fun z03 => ((impl_MulUint16.f a0 a1).bind fun z05 => ((impl_MulUint16.f 2 3).bind fun z07 => (if (z05.2 == z03.2) = true then (if z03.2 = true then (if z05.1 = (IntKind.u16.wrap (z03.1)) then (if z07.2 = true then (some (z07.1 == 6)) else (some false)) else (some false)) else (if z07.2 = true then (some (z07.1 == 6)) else (some false))) else (some false)))))) = some r := H
 have A5 := Aside0.mk A50
 clear A50
 replace H := Option.bind_eq_some_iff.mp H
 obtain ⟨⟨t399, t400⟩, A60, H⟩ := H
 replace H : ((laws_fitted.f k t399 t400 t381 t382 t385 t386).bind fun z03 => ((impl_MulUint16.f a0 a1).bind fun z05 => ((impl_MulUint16.f 2 3).bind fun z07 => (if (z05.2 == z03.2) = true then (if z03.2 = true then (if z05.1 = (IntKind.u16.wrap (z03.1)) then (if z07.2 = true then (some (z07.1 == 6)) else (some false)) else (some false)) else (if z07.2 = true then (some (z07.1 == 6)) else (some false))) else (some false))))) = some r := H
 have A6 := Aside0.mk A60
 clear A60
 replace H := Option.bind_eq_some_iff.mp H
 obtain ⟨⟨t403, t404⟩, A70, H⟩ := H
 replace H : ((impl_MulUint16.f a0 a1).bind fun z05 => ((impl_MulUint16.f 2 3).bind fun z07 => (if (z05.2 == t404) = true then (if t404 = true then (if z05.1 = (IntKind.u16.wrap (t403)) then (if z07.2 = true then (some (z07.1 == 6)) else (some false)) else (some false)) else (if z07.2 = true then (some (z07.1 == 6)) else (some false))) else (some false)))) = some r := H
 have A7 := Aside0.mk A70
 clear A70
 replace H := Option.bind_eq_some_iff.mp H
 obtain ⟨⟨t405, t406⟩, A80, H⟩ := H
 replace H : ((impl_MulUint16.f 2 3).bind fun z07 => (if (t406 == t404) = true then (if t404 = true then (if t405 = (IntKind.u16.wrap (t403)) then (if z07.2 = true then (some (z07.1 == 6)) else (some false)) else (some false)) else (if z07.2 = true then (some (z07.1 == 6)) else (some false))) else (some false))) = some r := H
 have A8 := Aside0.mk A80
 clear A80
 replace H := Option.bind_eq_some_iff.mp H
 obtain ⟨⟨t407, t408⟩, A90, H⟩ := H
 replace H : (if (t406 == t404) = true then (if t404 = true then (if t405 = (IntKind.u16.wrap (t403)) then (if t408 = true then (some (t407 == 6)) else (some false)) else (some false)) else (if t408 = true then (some (t407 == 6)) else (some false))) else (some false)) = some r := H
 have A9 := Aside0.mk A90
 clear A90
 by_cases c10 : (t406 == t404) = true
 ·rw [if_pos c10] at H
  have c10b0 : (t406 == t404) = true := c10
  (try (have c10b1 : decide (t406 = t404) = true := by simpa using c10))
  (try (have c10b2 : (t406 == t404) = true := by simpa using c10))
  clear c10
  by_cases c11 : t404 = true
  ·subst c11
   have H1 : (if t405 = (IntKind.u16.wrap (t403)) then (if t408 = true then (some (t407 == 6)) else (some false)) else (some false)) = some r := by rw [if_pos rfl] at H; exact H
   clear H;have H := H1;clear H1
   by_cases c12 : t405 = (IntKind.u16.wrap (t403))
   ·rw [if_pos c12] at H
    have c12b0 : (t405 == (IntKind.u16.wrap (t403))) = true := beq_iff_eq.mpr c12
    have c12b1 : (t405 != (IntKind.u16.wrap (t403))) = false := bne_eq_false_iff_eq.mpr c12
    clear c12
    by_cases c13 : t408 = true
    ·subst c13
     have H1 : (some (t407 == 6)) = some r := by rw [if_pos rfl] at H; exact H
     clear H;have H := H1;clear H1
     obtain rfl := Option.some.inj H
     go_enter Try.func12, Try.ntmps12
     try go_wp2_with (first | ((with_reducible refine gate_callee (f := 25) rfl ?_); refine goesL_ (some 14) rfl rfl Try.func25 (by kernel_rfl) rfl #[.int .i64 16, .bool false] rfl (by (try simp only [List.map_toArray, List.map_cons, List.map_nil]); first | done | rfl | (simp only [List.length_drop, List.length_take]; rfl)) ?_; (with_reducible refine (laws_bounds.calls k 16 false t381 t382 t385 t386 _ A3.out).mono ?_); rintro e w14 ⟨v383, v387, rfl, ho0, ho1, hb⟩; refine ⟨_, rfl, ?_⟩; have n0_ := Aside0.mk (Kd.V_lower (Kd.V_mono (ok' := fun k_ => True) ho0 (fun k_ hk_ => trivial)) (below_size (by repeat (first | (with_reducible first | exact HB.out | apply below_alloc | apply pw_below_drewN | apply below_drew1) | exact HB.out)))); have n1_ := Aside0.mk (Kd.V_lower (Kd.V_mono (ok' := fun k_ => True) ho1 (fun k_ hk_ => trivial)) (below_size (by repeat (first | (with_reducible first | exact HB.out | apply below_alloc | apply pw_below_drewN | apply below_drew1) | exact HB.out)))); have n2_ := Aside0.mk (below_step (by repeat (first | (with_reducible first | exact HB.out | apply below_alloc | apply pw_below_drewN | apply below_drew1) | exact HB.out)) hb); clear HB; have HOa := n0_; have HOb := n1_; have HB := n2_; clear n0_ n1_ n2_; (try clear hb); (try clear hb2); (try clear hk); (try clear hi); (try clear ho0); (try clear ho1)) | ((with_reducible refine gate_dst (N := 5) rfl ?_); refine box_event ?hg (N := 5) ?hd (cs := #[.bool false, .slice none 0 0]) (t := 27) ?hr ?_; (case hd => rfl); (case hg => rfl); (case hr => first | (go_simp; done) | (go_simp; rfl)); intro gb389 hg w15 hbox hb; have n0_ := Aside0.mk (Kd.V_below (Kd.V_elderB (by (with_reducible repeat (first | apply Kd.V_alloc | apply Kd.V_drewN | apply Kd.V_drew)); exact HOa.out) gb389 (Nat.le_of_eq hg.symm)) hb); have n1_ := Aside0.mk (Kd.V_below (Kd.V_elderB (by (with_reducible repeat (first | apply Kd.V_alloc | apply Kd.V_drewN | apply Kd.V_drew)); exact HOb.out) gb389 (Nat.le_of_eq hg.symm)) hb); have n2_ := Aside0.mk (below_step (by repeat (first | (with_reducible first | exact HB.out | apply below_alloc | apply pw_below_drewN | apply below_drew1) | exact HB.out)) hb); have n3_ := Aside0.mk (hbox); have n4_ := Aside0.mk ((by rw [hg]; exact (below_size (by repeat (first | (with_reducible first | exact HB.out | apply below_alloc | apply pw_below_drewN | apply below_drew1) | exact HB.out))) : w.heap.size ≤ gb389)); have n5_ := Aside0.mk ((by rw [hg]; exact (below_size (by repeat (first | (with_reducible first | exact HB.out | apply below_alloc | apply pw_below_drewN | apply below_drew1) | exact HB.out))) : w.heap.size ≤ gb389)); clear HOa; clear HOb; clear HB; have HOa := n0_; have HOb := n1_; have HB := n2_; have BK389 := n3_; have GW389 := n4_; have GE389 := n5_; clear n0_ n1_ n2_ n3_ n4_ n5_; clear hb hbox hg) | ((with_reducible refine gate_dst (N := 6) rfl ?_); refine box_event ?hg (N := 6) ?hd (cs := #[.bool false, .slice none 0 0]) (t := 27) ?hr ?_; (case hd => rfl); (case hg => rfl); (case hr => first | (go_simp; done) | (go_simp; rfl)); intro gb390 hg w16 hbox hb; have n0_ := Aside0.mk (Kd.V_below (Kd.V_elderB (by (with_reducible repeat (first | apply Kd.V_alloc | apply Kd.V_drewN | apply Kd.V_drew)); exact HOa.out) gb390 (Nat.le_of_eq hg.symm)) hb); have n1_ := Aside0.mk (Kd.V_below (Kd.V_elderB (by (with_reducible repeat (first | apply Kd.V_alloc | apply Kd.V_drewN | apply Kd.V_drew)); exact HOb.out) gb390 (Nat.le_of_eq hg.symm)) hb); have n2_ := Aside0.mk (blk_below (g := gb389) (o := .cells #[.bool false, .slice none 0 0] 27 (0, 0)) (by (with_reducible repeat (first | refine blk_drewN ?_ _ | refine blk_drew ?_ | refine blk_alloc ?_ _)); exact BK389.out) hb); have n3_ := Aside0.mk (below_step (by repeat (first | (with_reducible first | exact HB.out | apply below_alloc | apply pw_below_drewN | apply below_drew1 | refine below_set ?_ GE389.out) | exact HB.out)) hb); have n4_ := Aside0.mk (hbox); have n5_ := Aside0.mk ((by rw [hg]; exact (below_size (by repeat (first | (with_reducible first | exact HB.out | apply below_alloc | apply pw_below_drewN | apply below_drew1 | refine below_set ?_ GE389.out) | exact HB.out))) : w.heap.size ≤ gb390)); have n6_ := Aside0.mk ((by rw [hg]; exact (below_size (by repeat (first | (with_reducible first | exact HB.out | apply below_alloc | apply pw_below_drewN | apply below_drew1 | refine below_set ?_ GE389.out) | exact HB.out))) : w.heap.size ≤ gb390)); have n7_ := Aside0.mk ((by rw [hg]; exact Nat.ne_of_lt (blk_lt (g := gb389) (o := .cells #[.bool false, .slice none 0 0] 27 (0, 0)) (by (with_reducible repeat (first | refine blk_drewN ?_ _ | refine blk_drew ?_ | refine blk_alloc ?_ _)); exact BK389.out)) : gb389 ≠ gb390)); have n8_ := Aside0.mk ((by rw [hg]; exact Nat.ne_of_gt (blk_lt (g := gb389) (o := .cells #[.bool false, .slice none 0 0] 27 (0, 0)) (by (with_reducible repeat (first | refine blk_drewN ?_ _ | refine blk_drew ?_ | refine blk_alloc ?_ _)); exact BK389.out)) : gb390 ≠ gb389)); clear HOa; clear HOb; clear BK389; clear HB; have HOa := n0_; have HOb := n1_; have BK389 := n2_; have HB := n3_; have BK390 := n4_; have GW390 := n5_; have GE390 := n6_; have NB389_390 := n7_; have NB390_389 := n8_; clear n0_ n1_ n2_ n3_ n4_ n5_ n6_ n7_ n8_; clear hb hbox hg; have hnb17 := NB389_390.out; have hnc17 := NB390_389.out; have hcz18_0 : w16.cell? ⟨gb389, 0, none⟩ = some (.bool false) := (blk_cell BK389.out 0).trans rfl; have hcz18_1 : w16.cell? ⟨gb389, 1, none⟩ = some (.slice none 0 0) := (blk_cell BK389.out 1).trans rfl; have hfz18_0 := blk_frozen BK389.out 0; have hfz18_1 := blk_frozen BK389.out 1; obtain ⟨Ao19, co19, eo19⟩ := Kd.V_slice HOa.out; subst eo19; have hcz20_0 : w16.cell? ⟨gb390, 0, none⟩ = some (.bool false) := (blk_cell BK390.out 0).trans rfl; have hcz20_1 : w16.cell? ⟨gb390, 1, none⟩ = some (.slice none 0 0) := (blk_cell BK390.out 1).trans rfl; have hfz20_0 := blk_frozen BK390.out 0; have hfz20_1 := blk_frozen BK390.out 1; obtain ⟨Ao21, co21, eo21⟩ := Kd.V_slice HOb.out; subst eo21))
     have n0_ : Aside0 (Kd.V (Kd.int .u32) 44 ((((w16.setCell ⟨gb389, 0, none⟩ (.bool t381)).setCell ⟨gb389, 1, none⟩ (.slice Ao19 t382.length co19)).setCell ⟨gb390, 0, none⟩ (.bool t385)).setCell ⟨gb390, 1, none⟩ (.slice Ao21 t386.length co21)) w.heap.size (fun k_ => k_ ≠ gb389 ∧ k_ ≠ gb390) (.slice Ao19 t382.length co19) t382) := ⟨by (with_reducible repeat (first | apply Kd.V_alloc | apply Kd.V_drewN | apply Kd.V_drew)); exact Kd.V_mono (Kd.V_far (p := ⟨gb390, 1, none⟩) (Kd.V_far (p := ⟨gb390, 0, none⟩) (Kd.V_far (p := ⟨gb389, 1, none⟩) (Kd.V_far (p := ⟨gb389, 0, none⟩) (Kd.V_mono (Kd.V_mono HOa.out (fun k_ hk => (⟨hk, hk.1.2⟩ : _ ∧ k_ ≠ gb389))) (fun k_ hk => (⟨hk, hk.1.2⟩ : _ ∧ k_ ≠ gb390))) (fun _ hk => hk.1.2) (.bool t381)) (fun _ hk => hk.1.2) (.slice Ao19 t382.length co19)) (fun _ hk => hk.2) (.bool t385)) (fun _ hk => hk.2) (.slice Ao21 t386.length co21)) (fun _ hk => ⟨hk.1.1.1.2, hk.1.1.2⟩)⟩
     have n1_ : Aside0 (Kd.V (Kd.int .u32) 44 ((((w16.setCell ⟨gb389, 0, none⟩ (.bool t381)).setCell ⟨gb389, 1, none⟩ (.slice Ao19 t382.length co19)).setCell ⟨gb390, 0, none⟩ (.bool t385)).setCell ⟨gb390, 1, none⟩ (.slice Ao21 t386.length co21)) w.heap.size (fun k_ => k_ ≠ gb389 ∧ k_ ≠ gb390) (.slice Ao21 t386.length co21) t386) := ⟨by (with_reducible repeat (first | apply Kd.V_alloc | apply Kd.V_drewN | apply Kd.V_drew)); exact Kd.V_mono (Kd.V_far (p := ⟨gb390, 1, none⟩) (Kd.V_far (p := ⟨gb390, 0, none⟩) (Kd.V_far (p := ⟨gb389, 1, none⟩) (Kd.V_far (p := ⟨gb389, 0, none⟩) (Kd.V_mono (Kd.V_mono HOb.out (fun k_ hk => (⟨hk, hk.1.2⟩ : _ ∧ k_ ≠ gb389))) (fun k_ hk => (⟨hk, hk.1.2⟩ : _ ∧ k_ ≠ gb390))) (fun _ hk => hk.1.2) (.bool t381)) (fun _ hk => hk.1.2) (.slice Ao19 t382.length co19)) (fun _ hk => hk.2) (.bool t385)) (fun _ hk => hk.2) (.slice Ao21 t386.length co21)) (fun _ hk => ⟨hk.1.1.1.2, hk.1.1.2⟩)⟩
     have n2_ : Aside0 (((((w16.setCell ⟨gb389, 0, none⟩ (.bool t381)).setCell ⟨gb389, 1, none⟩ (.slice Ao19 t382.length co19)).setCell ⟨gb390, 0, none⟩ (.bool t385)).setCell ⟨gb390, 1, none⟩ (.slice Ao21 t386.length co21)).heap[gb389]? = some (.cells #[.bool t381, .slice Ao19 t382.length co19] 27 (0, 0))) := ⟨by (with_reducible repeat (first | refine blk_drewN ?_ _ | refine blk_drew ?_ | refine blk_alloc ?_ _)); refine blk_far ?_ NB389_390.out _; (with_reducible repeat (first | refine blk_drewN ?_ _ | refine blk_drew ?_ | refine blk_alloc ?_ _)); refine blk_far ?_ NB389_390.out _; (with_reducible repeat (first | refine blk_drewN ?_ _ | refine blk_drew ?_ | refine blk_alloc ?_ _)); refine blk_put (cs := #[.bool t381, .slice none 0 0]) ?_ 1 _ rfl; (with_reducible repeat (first | refine blk_drewN ?_ _ | refine blk_drew ?_ | refine blk_alloc ?_ _)); refine blk_put (cs := #[.bool false, .slice none 0 0]) ?_ 0 _ rfl; (with_reducible repeat (first | refine blk_drewN ?_ _ | refine blk_drew ?_ | refine blk_alloc ?_ _)); exact BK389.out⟩
     have n3_ : Aside0 (((((w16.setCell ⟨gb389, 0, none⟩ (.bool t381)).setCell ⟨gb389, 1, none⟩ (.slice Ao19 t382.length co19)).setCell ⟨gb390, 0, none⟩ (.bool t385)).setCell ⟨gb390, 1, none⟩ (.slice Ao21 t386.length co21)).heap[gb390]? = some (.cells #[.bool t385, .slice Ao21 t386.length co21] 27 (0, 0))) := ⟨by (with_reducible repeat (first | refine blk_drewN ?_ _ | refine blk_drew ?_ | refine blk_alloc ?_ _)); refine blk_put (cs := #[.bool t385, .slice none 0 0]) ?_ 1 _ rfl; (with_reducible repeat (first | refine blk_drewN ?_ _ | refine blk_drew ?_ | refine blk_alloc ?_ _)); refine blk_put (cs := #[.bool false, .slice none 0 0]) ?_ 0 _ rfl; (with_reducible repeat (first | refine blk_drewN ?_ _ | refine blk_drew ?_ | refine blk_alloc ?_ _)); refine blk_far ?_ NB390_389.out _; (with_reducible repeat (first | refine blk_drewN ?_ _ | refine blk_drew ?_ | refine blk_alloc ?_ _)); refine blk_far ?_ NB390_389.out _; (with_reducible repeat (first | refine blk_drewN ?_ _ | refine blk_drew ?_ | refine blk_alloc ?_ _)); exact BK390.out⟩
     have n4_ : Aside0 (Below w.heap.size w ((((w16.setCell ⟨gb389, 0, none⟩ (.bool t381)).setCell ⟨gb389, 1, none⟩ (.slice Ao19 t382.length co19)).setCell ⟨gb390, 0, none⟩ (.bool t385)).setCell ⟨gb390, 1, none⟩ (.slice Ao21 t386.length co21))) := ⟨by repeat (first | (with_reducible first | exact HB.out | apply below_alloc | apply pw_below_drewN | apply below_drew1 | refine below_set ?_ GE389.out | refine below_set ?_ GE390.out) | exact HB.out)⟩
     (try clear HOa);(try clear HOb);(try clear BK389);(try clear BK390);(try clear HB)
     generalize ((((w16.setCell ⟨gb389, 0, none⟩ (.bool t381)).setCell ⟨gb389, 1, none⟩ (.slice Ao19 t382.length co19)).setCell ⟨gb390, 0, none⟩ (.bool t385)).setCell ⟨gb390, 1, none⟩ (.slice Ao21 t386.length co21)) = w22 at n0_ n1_ n2_ n3_ n4_ ⊢
     have HOa := n0_;have HOb := n1_;have BK389 := n2_;have BK390 := n3_;have HB := n4_;clear n0_ n1_ n2_ n3_ n4_
     have n0_ := Aside0.mk (Kd.V_drew HOa.out)
     have n1_ := Aside0.mk (Kd.V_drew HOb.out)
     have n2_ := Aside0.mk (blk_drew BK389.out)
     have n3_ := Aside0.mk (blk_drew BK390.out)
     have n4_ := Aside0.mk (below_drew1 HB.out)
     clear HOa HOb BK389 BK390 HB;have HOa := n0_;have HOb := n1_;have BK389 := n2_;have BK390 := n3_;have HB := n4_;clear n0_ n1_ n2_ n3_ n4_
     refine start_ (n := 15) (S := fun w' => w'.cell? ⟨gb389, 0, none⟩ = some (.bool t381) ∧ w'.cell? ⟨gb389, 1, none⟩ = some (.slice Ao19 t382.length co19) ∧ w'.cell? ⟨gb390, 0, none⟩ = some (.bool t385) ∧ w'.cell? ⟨gb390, 1, none⟩ = some (.slice Ao21 t386.length co21)) (ds := []) #[false, false, false, false, false, false, false, false, false, false, false, false, false, false, false] (by kernel_rfl) rfl rfl ⟨(blk_cell BK389.out 0).trans rfl, (blk_cell BK389.out 1).trans rfl, (blk_cell BK390.out 0).trans rfl, (blk_cell BK390.out 1).trans rfl⟩ (fun hHeld => ?_); refine with_tabW laws_FnMulUint16.tab2 laws_FnMulUint16.bits2 (fun HT_ HW_ => ?_)
     generalize w22.drew = w23 at HOa HOb BK389 BK390 HB hHeld ⊢
     refine pure_ (i := 0) (N := some 18) (v := ?_) (a' := ?_) #[true, false, false, false, false, false, false, false, false, false, false, false, false, false, false] rfl rfl (any_of HT_.out (by kernel_rfl)) (fun _ _ _ h => h) (Or.inl ⟨by rfl, ?_⟩) ?_ ?_
     rotate_left
     ·intro w'
      go_simp
      with_reducible rfl
     rotate_left
     ·simp only [Act.put, List.setIfInBounds_toArray, List.set_cons_zero, List.set_cons_succ, i64_w, i32_w]
      rfl
     refine pure_ (i := 1) (N := some 19) (v := ?_) (a' := ?_) #[true, true, false, false, false, false, false, false, false, false, false, false, false, false, false] rfl rfl (any_of HT_.out (by kernel_rfl)) (fun _ _ _ h => h) (Or.inl ⟨by rfl, ?_⟩) ?_ ?_
     rotate_left
     ·intro w'
      go_simp
      with_reducible rfl
     rotate_left
     ·simp only [Act.put, List.setIfInBounds_toArray, List.set_cons_zero, List.set_cons_succ, i64_w, i32_w]
      rfl
     refine pure_ (i := 3) (N := some 21) (v := ?_) (a' := ?_) #[true, true, false, true, false, false, false, false, false, false, false, false, false, false, false] rfl rfl (any_of HT_.out (by kernel_rfl)) (fun _ _ _ h => h) (Or.inl ⟨by rfl, ?_⟩) ?_ ?_
     rotate_left
     ·intro w'
      go_simp
      with_reducible rfl
     rotate_left
     ·simp only [Act.put, List.setIfInBounds_toArray, List.set_cons_zero, List.set_cons_succ, i64_w, i32_w]
      rfl
     refine pure_ (i := 4) (N := some 22) (v := ?_) (a' := ?_) #[true, true, false, true, true, false, false, false, false, false, false, false, false, false, false] rfl rfl (any_of HT_.out (by kernel_rfl)) (fun _ _ _ h => h) (Or.inl ⟨by rfl, ?_⟩) ?_ ?_
     rotate_left
     ·intro w'
      go_simp
      with_reducible rfl
     rotate_left
     ·simp only [Act.put, List.setIfInBounds_toArray, List.set_cons_zero, List.set_cons_succ, i64_w, i32_w]
      rfl
     refine take_ (i := 7) (N := some 25) (v := ?_) (a' := ?_) #[true, true, false, true, true, false, false, true, false, false, false, false, false, false, false] rfl rfl (take_ofW HT_.out HW_.out (by kernel_rfl)) (fun _ _ _ h => h) (Or.inl ⟨by rfl, ?_⟩) hHeld ?_ ?_
     rotate_left
     ·rintro w' ⟨s0, s1, s2, s3⟩
      go_simp
      with_reducible rfl
     rotate_left
     ·simp only [Act.put, List.setIfInBounds_toArray, List.set_cons_zero, List.set_cons_succ, i64_w, i32_w]
      rfl
     refine take_ (i := 8) (N := some 26) (v := ?_) (a' := ?_) #[true, true, false, true, true, false, false, true, true, false, false, false, false, false, false] rfl rfl (take_ofW HT_.out HW_.out (by kernel_rfl)) (fun _ _ _ h => h) (Or.inl ⟨by rfl, ?_⟩) hHeld ?_ ?_
     rotate_left
     ·rintro w' ⟨s0, s1, s2, s3⟩
      go_simp
      with_reducible rfl
     rotate_left
     ·simp only [Act.put, List.setIfInBounds_toArray, List.set_cons_zero, List.set_cons_succ, i64_w, i32_w]
      rfl
     refine one_ (i := 2) (N := some 20) #[true, true, true, true, true, false, false, true, true, false, false, false, false, false, false] rfl rfl (one_of HT_.out (by kernel_rfl)) (by decide) (fun K hK => ?_)
     refine goes_ Try.func30 (by kernel_rfl) rfl #[.int .u64 (IntKind.u64.wrap (a0))] (by rfl) rfl rfl (by (try simp only [List.map_toArray, List.map_cons, List.map_nil]); first | done | rfl | (simp only [List.length_drop, List.length_take]; rfl)) ?_
     with_reducible refine (spec_WideUint.calls k (IntKind.u64.wrap (a0)) t391 t392 _ A4.out).mono ?_
     rintro e w24 ⟨v393, rfl, ho0, hb⟩
     refine ⟨_, rfl, ?_⟩
     have n0_ := Aside0.mk (Kd.V_below (by (with_reducible repeat (first | apply Kd.V_alloc | apply Kd.V_drewN | apply Kd.V_drew)); exact HOa.out) hb)
     have n1_ := Aside0.mk (Kd.V_below (by (with_reducible repeat (first | apply Kd.V_alloc | apply Kd.V_drewN | apply Kd.V_drew)); exact HOb.out) hb)
     have n2_ := Aside0.mk (Kd.V_lower (Kd.V_mono (ok' := fun k_ => k_ ≠ gb389 ∧ k_ ≠ gb390) ho0 (fun k_ hk_ => ⟨(Kd.freshB (g := gb389) (o := .cells #[.bool t381, .slice Ao19 t382.length co19] 27 (0, 0)) (by (with_reducible repeat (first | refine blk_drewN ?_ _ | refine blk_drew ?_ | refine blk_alloc ?_ _)); exact BK389.out) k_ hk_), (Kd.freshB (g := gb390) (o := .cells #[.bool t385, .slice Ao21 t386.length co21] 27 (0, 0)) (by (with_reducible repeat (first | refine blk_drewN ?_ _ | refine blk_drew ?_ | refine blk_alloc ?_ _)); exact BK390.out) k_ hk_)⟩)) (below_size (by repeat (first | (with_reducible first | exact HB.out | apply below_alloc | apply pw_below_drewN | apply below_drew1 | refine below_set ?_ GE389.out | refine below_set ?_ GE390.out) | exact HB.out))))
     have n3_ := Aside0.mk (blk_below (g := gb389) (o := .cells #[.bool t381, .slice Ao19 t382.length co19] 27 (0, 0)) (by (with_reducible repeat (first | refine blk_drewN ?_ _ | refine blk_drew ?_ | refine blk_alloc ?_ _)); exact BK389.out) hb)
     have n4_ := Aside0.mk (blk_below (g := gb390) (o := .cells #[.bool t385, .slice Ao21 t386.length co21] 27 (0, 0)) (by (with_reducible repeat (first | refine blk_drewN ?_ _ | refine blk_drew ?_ | refine blk_alloc ?_ _)); exact BK390.out) hb)
     have n5_ := Aside0.mk (below_step (by repeat (first | (with_reducible first | exact HB.out | apply below_alloc | apply pw_below_drewN | apply below_drew1 | refine below_set ?_ GE389.out | refine below_set ?_ GE390.out) | exact HB.out)) hb)
     clear HOa HOb BK389 BK390 HB;have HOa := n0_;have HOb := n1_;have HOc := n2_;have BK389 := n3_;have BK390 := n4_;have HB := n5_;clear n0_ n1_ n2_ n3_ n4_ n5_;(try clear hb);(try clear hb2);(try clear hk);(try clear hi);(try clear ho0)
     refine hK.out _ _ ⟨(blk_cell BK389.out 0).trans rfl, (blk_cell BK389.out 1).trans rfl, (blk_cell BK390.out 0).trans rfl, (blk_cell BK390.out 1).trans rfl⟩ (fun hHeld => ?_)
     clear hK K
     refine norm_ (a' := ?_) ?_ ?_
     rotate_left
     ·show Act.put _ (some 20) _ = _
      simp only [Act.put, List.setIfInBounds_toArray, List.set_cons_zero, List.set_cons_succ, i64_w, i32_w]
      rfl
     refine one_ (i := 5) (N := some 23) #[true, true, true, true, true, true, false, true, true, false, false, false, false, false, false] rfl rfl (one_of HT_.out (by kernel_rfl)) (by decide) (fun K hK => ?_)
     refine goes_ Try.func30 (by kernel_rfl) rfl #[.int .u64 (IntKind.u64.wrap (a1))] (by rfl) rfl rfl (by (try simp only [List.map_toArray, List.map_cons, List.map_nil]); first | done | rfl | (simp only [List.length_drop, List.length_take]; rfl)) ?_
     with_reducible refine (spec_WideUint.calls k (IntKind.u64.wrap (a1)) t395 t396 _ A5.out).mono ?_
     rintro e w25 ⟨v397, rfl, ho0, hb⟩
     refine ⟨_, rfl, ?_⟩
     have n0_ := Aside0.mk (Kd.V_below (by (with_reducible repeat (first | apply Kd.V_alloc | apply Kd.V_drewN | apply Kd.V_drew)); exact HOa.out) hb)
     have n1_ := Aside0.mk (Kd.V_below (by (with_reducible repeat (first | apply Kd.V_alloc | apply Kd.V_drewN | apply Kd.V_drew)); exact HOb.out) hb)
     have n2_ := Aside0.mk (Kd.V_below (by (with_reducible repeat (first | apply Kd.V_alloc | apply Kd.V_drewN | apply Kd.V_drew)); exact HOc.out) hb)
     have n3_ := Aside0.mk (Kd.V_lower (Kd.V_mono (ok' := fun k_ => k_ ≠ gb389 ∧ k_ ≠ gb390) ho0 (fun k_ hk_ => ⟨(Kd.freshB (g := gb389) (o := .cells #[.bool t381, .slice Ao19 t382.length co19] 27 (0, 0)) (by (with_reducible repeat (first | refine blk_drewN ?_ _ | refine blk_drew ?_ | refine blk_alloc ?_ _)); exact BK389.out) k_ hk_), (Kd.freshB (g := gb390) (o := .cells #[.bool t385, .slice Ao21 t386.length co21] 27 (0, 0)) (by (with_reducible repeat (first | refine blk_drewN ?_ _ | refine blk_drew ?_ | refine blk_alloc ?_ _)); exact BK390.out) k_ hk_)⟩)) (below_size (by repeat (first | (with_reducible first | exact HB.out | apply below_alloc | apply pw_below_drewN | apply below_drew1 | refine below_set ?_ GE389.out | refine below_set ?_ GE390.out) | exact HB.out))))
     have n4_ := Aside0.mk (blk_below (g := gb389) (o := .cells #[.bool t381, .slice Ao19 t382.length co19] 27 (0, 0)) (by (with_reducible repeat (first | refine blk_drewN ?_ _ | refine blk_drew ?_ | refine blk_alloc ?_ _)); exact BK389.out) hb)
     have n5_ := Aside0.mk (blk_below (g := gb390) (o := .cells #[.bool t385, .slice Ao21 t386.length co21] 27 (0, 0)) (by (with_reducible repeat (first | refine blk_drewN ?_ _ | refine blk_drew ?_ | refine blk_alloc ?_ _)); exact BK390.out) hb)
     have n6_ := Aside0.mk (below_step (by repeat (first | (with_reducible first | exact HB.out | apply below_alloc | apply pw_below_drewN | apply below_drew1 | refine below_set ?_ GE389.out | refine below_set ?_ GE390.out) | exact HB.out)) hb)
     clear HOa HOb HOc BK389 BK390 HB;have HOa := n0_;have HOb := n1_;have HOc := n2_;have HOd := n3_;have BK389 := n4_;have BK390 := n5_;have HB := n6_;clear n0_ n1_ n2_ n3_ n4_ n5_ n6_;(try clear hb);(try clear hb2);(try clear hk);(try clear hi);(try clear ho0)
     obtain ⟨Ao26, co26, eo26⟩ := Kd.V_slice HOc.out
     (first | subst eo26 | (injection eo26 with f1_ f2_ f3_; have f4_ := f1_.symm; have f5_ := f3_.symm; clear f1_ f2_ f3_; subst f4_; subst f5_))
     obtain ⟨Ao27, co27, eo27⟩ := Kd.V_slice HOd.out
     (first | subst eo27 | (injection eo27 with f1_ f2_ f3_; have f4_ := f1_.symm; have f5_ := f3_.symm; clear f1_ f2_ f3_; subst f4_; subst f5_))
     refine hK.out _ _ ⟨(blk_cell BK389.out 0).trans rfl, (blk_cell BK389.out 1).trans rfl, (blk_cell BK390.out 0).trans rfl, (blk_cell BK390.out 1).trans rfl⟩ (fun hHeld => ?_)
     clear hK K
     refine norm_ (a' := ?_) ?_ ?_
     rotate_left
     ·show Act.put _ (some 23) _ = _
      simp only [Act.put, List.setIfInBounds_toArray, List.set_cons_zero, List.set_cons_succ, i64_w, i32_w]
      rfl
     refine one_ (i := 6) (N := some 24) #[true, true, true, true, true, true, true, true, true, false, false, false, false, false, false] rfl rfl (one_of HT_.out (by kernel_rfl)) (by decide) (fun K hK => ?_)
     refine goes_ Try.func29 (by kernel_rfl) rfl #[.agg #[.bool t391, .slice Ao26 t392.length co26], .agg #[.bool t395, .slice Ao27 t396.length co27]] (by rfl) rfl rfl (by (try simp only [List.map_toArray, List.map_cons, List.map_nil]); first | done | rfl | (simp only [List.length_drop, List.length_take]; rfl)) ?_
     with_reducible refine (spec_WideMul.calls k t391 _ _ t392 t395 _ _ t396 t399 t400 _ ?side1 ?side2 ?side3 ?side4 A6.out).mono ?_
     (case side1 => repeat (first | exact (Kd.V_reads' HOc.out).2.2 | (with_reducible refine Kd.C_alloc ?_ _) | (with_reducible refine Kd.C_drewN ?_ _) | (with_reducible refine Kd.C_drew ?_)))
     (case side2 => exact (Kd.V_reads' HOc.out).2.1)
     (case side3 => repeat (first | exact (Kd.V_reads' HOd.out).2.2 | (with_reducible refine Kd.C_alloc ?_ _) | (with_reducible refine Kd.C_drewN ?_ _) | (with_reducible refine Kd.C_drew ?_)))
     (case side4 => exact (Kd.V_reads' HOd.out).2.1)
     rintro e w28 ⟨v401, rfl, ho0, hb⟩
     refine ⟨_, rfl, ?_⟩
     have n0_ := Aside0.mk (Kd.V_below (by (with_reducible repeat (first | apply Kd.V_alloc | apply Kd.V_drewN | apply Kd.V_drew)); exact HOa.out) hb)
     have n1_ := Aside0.mk (Kd.V_below (by (with_reducible repeat (first | apply Kd.V_alloc | apply Kd.V_drewN | apply Kd.V_drew)); exact HOb.out) hb)
     have n2_ := Aside0.mk (Kd.V_below (by (with_reducible repeat (first | apply Kd.V_alloc | apply Kd.V_drewN | apply Kd.V_drew)); exact HOc.out) hb)
     have n3_ := Aside0.mk (Kd.V_below (by (with_reducible repeat (first | apply Kd.V_alloc | apply Kd.V_drewN | apply Kd.V_drew)); exact HOd.out) hb)
     have n4_ := Aside0.mk (Kd.V_lower (Kd.V_mono (ok' := fun k_ => k_ ≠ gb389 ∧ k_ ≠ gb390) ho0 (fun k_ hk_ => ⟨(Kd.freshB (g := gb389) (o := .cells #[.bool t381, .slice Ao19 t382.length co19] 27 (0, 0)) (by (with_reducible repeat (first | refine blk_drewN ?_ _ | refine blk_drew ?_ | refine blk_alloc ?_ _)); exact BK389.out) k_ hk_), (Kd.freshB (g := gb390) (o := .cells #[.bool t385, .slice Ao21 t386.length co21] 27 (0, 0)) (by (with_reducible repeat (first | refine blk_drewN ?_ _ | refine blk_drew ?_ | refine blk_alloc ?_ _)); exact BK390.out) k_ hk_)⟩)) (below_size (by repeat (first | (with_reducible first | exact HB.out | apply below_alloc | apply pw_below_drewN | apply below_drew1 | refine below_set ?_ GE389.out | refine below_set ?_ GE390.out) | exact HB.out))))
     have n5_ := Aside0.mk (blk_below (g := gb389) (o := .cells #[.bool t381, .slice Ao19 t382.length co19] 27 (0, 0)) (by (with_reducible repeat (first | refine blk_drewN ?_ _ | refine blk_drew ?_ | refine blk_alloc ?_ _)); exact BK389.out) hb)
     have n6_ := Aside0.mk (blk_below (g := gb390) (o := .cells #[.bool t385, .slice Ao21 t386.length co21] 27 (0, 0)) (by (with_reducible repeat (first | refine blk_drewN ?_ _ | refine blk_drew ?_ | refine blk_alloc ?_ _)); exact BK390.out) hb)
     have n7_ := Aside0.mk (below_step (by repeat (first | (with_reducible first | exact HB.out | apply below_alloc | apply pw_below_drewN | apply below_drew1 | refine below_set ?_ GE389.out | refine below_set ?_ GE390.out) | exact HB.out)) hb)
     clear HOa HOb HOc HOd BK389 BK390 HB;have HOa := n0_;have HOb := n1_;have HOc := n2_;have HOd := n3_;have HO402 := n4_;have BK389 := n5_;have BK390 := n6_;have HB := n7_;clear n0_ n1_ n2_ n3_ n4_ n5_ n6_ n7_;(try clear hb);(try clear hb2);(try clear hk);(try clear hi);(try clear ho0)
     obtain ⟨Ao29, co29, eo29⟩ := Kd.V_slice HO402.out
     (first | subst eo29 | (injection eo29 with f1_ f2_ f3_; have f4_ := f1_.symm; have f5_ := f3_.symm; clear f1_ f2_ f3_; subst f4_; subst f5_))
     refine hK.out _ _ ⟨(blk_cell BK389.out 0).trans rfl, (blk_cell BK389.out 1).trans rfl, (blk_cell BK390.out 0).trans rfl, (blk_cell BK390.out 1).trans rfl⟩ (fun hHeld => ?_)
     clear hK K
     refine norm_ (a' := ?_) ?_ ?_
     rotate_left
     ·show Act.put _ (some 24) _ = _
      simp only [Act.put, List.setIfInBounds_toArray, List.set_cons_zero, List.set_cons_succ, i64_w, i32_w]
      rfl
     refine one_ (i := 9) (N := some 27) #[true, true, true, true, true, true, true, true, true, true, false, false, false, false, false] rfl rfl (one_of HT_.out (by kernel_rfl)) (by decide) (fun K hK => ?_)
     refine goes_ Try.func26 (by kernel_rfl) rfl #[.agg #[.bool t399, .slice Ao29 t400.length co29], .agg #[.bool t381, .slice Ao19 t382.length co19], .agg #[.bool t385, .slice Ao21 t386.length co21]] (by rfl) rfl rfl (by (try simp only [List.map_toArray, List.map_cons, List.map_nil]); first | done | rfl | (simp only [List.length_drop, List.length_take]; rfl)) ?_
     with_reducible refine (laws_fitted.calls k t399 _ _ t400 t381 _ _ t382 t385 _ _ t386 t403 true _ ?side1 ?side2 ?side3 ?side4 ?side5 ?side6 A7.out).mono ?_
     (case side1 => repeat (first | exact (Kd.V_reads' HO402.out).2.2 | (with_reducible refine Kd.C_alloc ?_ _) | (with_reducible refine Kd.C_drewN ?_ _) | (with_reducible refine Kd.C_drew ?_)))
     (case side2 => exact (Kd.V_reads' HO402.out).2.1)
     (case side3 => repeat (first | exact (Kd.V_reads' HOa.out).2.2 | (with_reducible refine Kd.C_alloc ?_ _) | (with_reducible refine Kd.C_drewN ?_ _) | (with_reducible refine Kd.C_drew ?_)))
     (case side4 => exact (Kd.V_reads' HOa.out).2.1)
     (case side5 => repeat (first | exact (Kd.V_reads' HOb.out).2.2 | (with_reducible refine Kd.C_alloc ?_ _) | (with_reducible refine Kd.C_drewN ?_ _) | (with_reducible refine Kd.C_drew ?_)))
     (case side6 => exact (Kd.V_reads' HOb.out).2.1)
     rintro e w30 ⟨rfl, hb⟩
     refine ⟨_, rfl, ?_⟩
     have n0_ := Aside0.mk (Kd.V_below (by (with_reducible repeat (first | apply Kd.V_alloc | apply Kd.V_drewN | apply Kd.V_drew)); exact HOa.out) hb)
     have n1_ := Aside0.mk (Kd.V_below (by (with_reducible repeat (first | apply Kd.V_alloc | apply Kd.V_drewN | apply Kd.V_drew)); exact HOb.out) hb)
     have n2_ := Aside0.mk (Kd.V_below (by (with_reducible repeat (first | apply Kd.V_alloc | apply Kd.V_drewN | apply Kd.V_drew)); exact HOc.out) hb)
     have n3_ := Aside0.mk (Kd.V_below (by (with_reducible repeat (first | apply Kd.V_alloc | apply Kd.V_drewN | apply Kd.V_drew)); exact HOd.out) hb)
     have n4_ := Aside0.mk (Kd.V_below (by (with_reducible repeat (first | apply Kd.V_alloc | apply Kd.V_drewN | apply Kd.V_drew)); exact HO402.out) hb)
     have n5_ := Aside0.mk (blk_below (g := gb389) (o := .cells #[.bool t381, .slice Ao19 t382.length co19] 27 (0, 0)) (by (with_reducible repeat (first | refine blk_drewN ?_ _ | refine blk_drew ?_ | refine blk_alloc ?_ _)); exact BK389.out) hb)
     have n6_ := Aside0.mk (blk_below (g := gb390) (o := .cells #[.bool t385, .slice Ao21 t386.length co21] 27 (0, 0)) (by (with_reducible repeat (first | refine blk_drewN ?_ _ | refine blk_drew ?_ | refine blk_alloc ?_ _)); exact BK390.out) hb)
     have n7_ := Aside0.mk (below_step (by repeat (first | (with_reducible first | exact HB.out | apply below_alloc | apply pw_below_drewN | apply below_drew1 | refine below_set ?_ GE389.out | refine below_set ?_ GE390.out) | exact HB.out)) hb)
     clear HOa HOb HOc HOd HO402 BK389 BK390 HB;have HOa := n0_;have HOb := n1_;have HOc := n2_;have HOd := n3_;have HO402 := n4_;have BK389 := n5_;have BK390 := n6_;have HB := n7_;clear n0_ n1_ n2_ n3_ n4_ n5_ n6_ n7_;(try clear hb);(try clear hb2);(try clear hk);(try clear hi)
     refine hK.out _ _ ⟨(blk_cell BK389.out 0).trans rfl, (blk_cell BK389.out 1).trans rfl, (blk_cell BK390.out 0).trans rfl, (blk_cell BK390.out 1).trans rfl⟩ (fun hHeld => ?_)
     clear hK K
     refine norm_ (a' := ?_) ?_ ?_
     rotate_left
     ·show Act.put _ (some 27) _ = _
      simp only [Act.put, List.setIfInBounds_toArray, List.set_cons_zero, List.set_cons_succ, i64_w, i32_w]
      rfl
     refine pure_ (i := 10) (N := some 17) (v := ?_) (a' := ?_) #[true, true, true, true, true, true, true, true, true, true, true, false, false, false, false] rfl rfl (any_of HT_.out (by kernel_rfl)) (fun _ _ _ h => h) (Or.inl ⟨by rfl, ?_⟩) ?_ ?_
     rotate_left
     ·intro w'
      go_simp
      with_reducible rfl
     rotate_left
     ·simp only [Act.put, List.setIfInBounds_toArray, List.set_cons_zero, List.set_cons_succ, i64_w, i32_w]
      rfl
     refine pure_ (i := 11) (N := some 28) (v := ?_) (a' := ?_) #[true, true, true, true, true, true, true, true, true, true, true, true, false, false, false] rfl rfl (any_of HT_.out (by kernel_rfl)) (fun _ _ _ h => h) (Or.inl ⟨by rfl, ?_⟩) ?_ ?_
     rotate_left
     ·intro w'
      go_simp
      with_reducible rfl
     rotate_left
     ·simp only [Act.put, List.setIfInBounds_toArray, List.set_cons_zero, List.set_cons_succ, i64_w, i32_w]
      rfl
     refine pure_ (i := 12) (N := some 29) (v := ?_) (a' := ?_) #[true, true, true, true, true, true, true, true, true, true, true, true, true, false, false] rfl rfl (any_of HT_.out (by kernel_rfl)) (fun _ _ _ h => h) (Or.inl ⟨by rfl, ?_⟩) ?_ ?_
     rotate_left
     ·intro w'
      go_simp
      with_reducible rfl
     rotate_left
     ·simp only [Act.put, List.setIfInBounds_toArray, List.set_cons_zero, List.set_cons_succ, i64_w, i32_w]
      rfl
     refine pure_ (i := 13) (N := some 7) (v := ?_) (a' := ?_) #[true, true, true, true, true, true, true, true, true, true, true, true, true, true, false] rfl rfl (any_of HT_.out (by kernel_rfl)) (fun _ _ _ h => h) (Or.inl ⟨by rfl, ?_⟩) ?_ ?_
     rotate_left
     ·intro w'
      go_simp
      with_reducible rfl
     rotate_left
     ·simp only [Act.put, List.setIfInBounds_toArray, List.set_cons_zero, List.set_cons_succ, i64_w, i32_w]
      rfl
     refine pure_ (i := 14) (N := some 8) (v := ?_) (a' := ?_) #[true, true, true, true, true, true, true, true, true, true, true, true, true, true, true] rfl rfl (any_of HT_.out (by kernel_rfl)) (fun _ _ _ h => h) (Or.inl ⟨by rfl, ?_⟩) ?_ ?_
     rotate_left
     ·intro w'
      go_simp
      with_reducible rfl
     rotate_left
     ·simp only [Act.put, List.setIfInBounds_toArray, List.set_cons_zero, List.set_cons_succ, i64_w, i32_w]
      rfl
     refine done_ (done_of HT_.out (by kernel_rfl)) ?_
     try go_wp2_with (first | ((with_reducible refine gate_callee (f := 31) rfl ?_); refine goesL_ (some 33) rfl rfl Try.func31 (by kernel_rfl) rfl #[.int .u16 a0, .int .u16 a1] rfl (by (try simp only [List.map_toArray, List.map_cons, List.map_nil]); first | done | rfl | (simp only [List.length_drop, List.length_take]; rfl)) ?_; (with_reducible refine (impl_MulUint16.calls a0 a1 t405 t406 _ A8.out).mono ?_); rintro e w31 ⟨rfl, hb⟩; refine ⟨_, rfl, ?_⟩; have n0_ := Aside0.mk (Kd.V_below (by (with_reducible repeat (first | apply Kd.V_alloc | apply Kd.V_drewN | apply Kd.V_drew)); exact HOa.out) hb); have n1_ := Aside0.mk (Kd.V_below (by (with_reducible repeat (first | apply Kd.V_alloc | apply Kd.V_drewN | apply Kd.V_drew)); exact HOb.out) hb); have n2_ := Aside0.mk (Kd.V_below (by (with_reducible repeat (first | apply Kd.V_alloc | apply Kd.V_drewN | apply Kd.V_drew)); exact HOc.out) hb); have n3_ := Aside0.mk (Kd.V_below (by (with_reducible repeat (first | apply Kd.V_alloc | apply Kd.V_drewN | apply Kd.V_drew)); exact HOd.out) hb); have n4_ := Aside0.mk (Kd.V_below (by (with_reducible repeat (first | apply Kd.V_alloc | apply Kd.V_drewN | apply Kd.V_drew)); exact HO402.out) hb); have n5_ := Aside0.mk (blk_below (g := gb389) (o := .cells #[.bool t381, .slice Ao19 t382.length co19] 27 (0, 0)) (by (with_reducible repeat (first | refine blk_drewN ?_ _ | refine blk_drew ?_ | refine blk_alloc ?_ _)); exact BK389.out) hb); have n6_ := Aside0.mk (blk_below (g := gb390) (o := .cells #[.bool t385, .slice Ao21 t386.length co21] 27 (0, 0)) (by (with_reducible repeat (first | refine blk_drewN ?_ _ | refine blk_drew ?_ | refine blk_alloc ?_ _)); exact BK390.out) hb); have n7_ := Aside0.mk (below_step (by repeat (first | (with_reducible first | exact HB.out | apply below_alloc | apply pw_below_drewN | apply below_drew1 | refine below_set ?_ GE389.out | refine below_set ?_ GE390.out) | exact HB.out)) hb); clear HOa; clear HOb; clear HOc; clear HOd; clear HO402; clear BK389; clear BK390; clear HB; have HOa := n0_; have HOb := n1_; have HOc := n2_; have HOd := n3_; have HO402 := n4_; have BK389 := n5_; have BK390 := n6_; have HB := n7_; clear n0_ n1_ n2_ n3_ n4_ n5_ n6_ n7_; (try clear hb); (try clear hb2); (try clear hk); (try clear hi)) | ((with_reducible refine gate_callee (f := 31) rfl ?_); refine goesL_ (some 37) rfl rfl Try.func31 (by kernel_rfl) rfl #[.int .u16 2, .int .u16 3] rfl (by (try simp only [List.map_toArray, List.map_cons, List.map_nil]); first | done | rfl | (simp only [List.length_drop, List.length_take]; rfl)) ?_; (with_reducible refine (impl_MulUint16.calls 2 3 t407 true _ A9.out).mono ?_); rintro e w32 ⟨rfl, hb⟩; refine ⟨_, rfl, ?_⟩; have n0_ := Aside0.mk (Kd.V_below (by (with_reducible repeat (first | apply Kd.V_alloc | apply Kd.V_drewN | apply Kd.V_drew)); exact HOa.out) hb); have n1_ := Aside0.mk (Kd.V_below (by (with_reducible repeat (first | apply Kd.V_alloc | apply Kd.V_drewN | apply Kd.V_drew)); exact HOb.out) hb); have n2_ := Aside0.mk (Kd.V_below (by (with_reducible repeat (first | apply Kd.V_alloc | apply Kd.V_drewN | apply Kd.V_drew)); exact HOc.out) hb); have n3_ := Aside0.mk (Kd.V_below (by (with_reducible repeat (first | apply Kd.V_alloc | apply Kd.V_drewN | apply Kd.V_drew)); exact HOd.out) hb); have n4_ := Aside0.mk (Kd.V_below (by (with_reducible repeat (first | apply Kd.V_alloc | apply Kd.V_drewN | apply Kd.V_drew)); exact HO402.out) hb); have n5_ := Aside0.mk (blk_below (g := gb389) (o := .cells #[.bool t381, .slice Ao19 t382.length co19] 27 (0, 0)) (by (with_reducible repeat (first | refine blk_drewN ?_ _ | refine blk_drew ?_ | refine blk_alloc ?_ _)); exact BK389.out) hb); have n6_ := Aside0.mk (blk_below (g := gb390) (o := .cells #[.bool t385, .slice Ao21 t386.length co21] 27 (0, 0)) (by (with_reducible repeat (first | refine blk_drewN ?_ _ | refine blk_drew ?_ | refine blk_alloc ?_ _)); exact BK390.out) hb); have n7_ := Aside0.mk (below_step (by repeat (first | (with_reducible first | exact HB.out | apply below_alloc | apply pw_below_drewN | apply below_drew1 | refine below_set ?_ GE389.out | refine below_set ?_ GE390.out) | exact HB.out)) hb); clear HOa; clear HOb; clear HOc; clear HOd; clear HO402; clear BK389; clear BK390; clear HB; have HOa := n0_; have HOb := n1_; have HOc := n2_; have HOd := n3_; have HO402 := n4_; have BK389 := n5_; have BK390 := n6_; have HB := n7_; clear n0_ n1_ n2_ n3_ n4_ n5_ n6_ n7_; (try clear hb); (try clear hb2); (try clear hk); (try clear hi)))
     go_ret
     exact ⟨by first | rfl | (simp [errW_none, errW_some] <;> rfl) | (simp [*, errW_none, errW_some] <;> rfl), by repeat (first | (with_reducible first | exact HB.out | apply below_alloc | apply pw_below_drewN | apply below_drew1 | refine below_set ?_ GE389.out | refine below_set ?_ GE390.out) | exact HB.out)⟩
    ·replace c13 := Bool.eq_false_iff.mpr c13
     subst c13
     have H1 : (some false) = some r := by rw [if_neg (show ¬ (false = true) by decide)] at H; exact H
     clear H;have H := H1;clear H1
     obtain rfl := Option.some.inj H
     go_enter Try.func12, Try.ntmps12
     try go_wp2_with (first | ((with_reducible refine gate_callee (f := 25) rfl ?_); refine goesL_ (some 14) rfl rfl Try.func25 (by kernel_rfl) rfl #[.int .i64 16, .bool false] rfl (by (try simp only [List.map_toArray, List.map_cons, List.map_nil]); first | done | rfl | (simp only [List.length_drop, List.length_take]; rfl)) ?_; (with_reducible refine (laws_bounds.calls k 16 false t381 t382 t385 t386 _ A3.out).mono ?_); rintro e w33 ⟨v383, v387, rfl, ho0, ho1, hb⟩; refine ⟨_, rfl, ?_⟩; have n0_ := Aside0.mk (Kd.V_lower (Kd.V_mono (ok' := fun k_ => True) ho0 (fun k_ hk_ => trivial)) (below_size (by repeat (first | (with_reducible first | exact HB.out | apply below_alloc | apply pw_below_drewN | apply below_drew1) | exact HB.out)))); have n1_ := Aside0.mk (Kd.V_lower (Kd.V_mono (ok' := fun k_ => True) ho1 (fun k_ hk_ => trivial)) (below_size (by repeat (first | (with_reducible first | exact HB.out | apply below_alloc | apply pw_below_drewN | apply below_drew1) | exact HB.out)))); have n2_ := Aside0.mk (below_step (by repeat (first | (with_reducible first | exact HB.out | apply below_alloc | apply pw_below_drewN | apply below_drew1) | exact HB.out)) hb); clear HB; have HOa := n0_; have HOb := n1_; have HB := n2_; clear n0_ n1_ n2_; (try clear hb); (try clear hb2); (try clear hk); (try clear hi); (try clear ho0); (try clear ho1)) | ((with_reducible refine gate_dst (N := 5) rfl ?_); refine box_event ?hg (N := 5) ?hd (cs := #[.bool false, .slice none 0 0]) (t := 27) ?hr ?_; (case hd => rfl); (case hg => rfl); (case hr => first | (go_simp; done) | (go_simp; rfl)); intro gb389 hg w34 hbox hb; have n0_ := Aside0.mk (Kd.V_below (Kd.V_elderB (by (with_reducible repeat (first | apply Kd.V_alloc | apply Kd.V_drewN | apply Kd.V_drew)); exact HOa.out) gb389 (Nat.le_of_eq hg.symm)) hb); have n1_ := Aside0.mk (Kd.V_below (Kd.V_elderB (by (with_reducible repeat (first | apply Kd.V_alloc | apply Kd.V_drewN | apply Kd.V_drew)); exact HOb.out) gb389 (Nat.le_of_eq hg.symm)) hb); have n2_ := Aside0.mk (below_step (by repeat (first | (with_reducible first | exact HB.out | apply below_alloc | apply pw_below_drewN | apply below_drew1) | exact HB.out)) hb); have n3_ := Aside0.mk (hbox); have n4_ := Aside0.mk ((by rw [hg]; exact (below_size (by repeat (first | (with_reducible first | exact HB.out | apply below_alloc | apply pw_below_drewN | apply below_drew1) | exact HB.out))) : w.heap.size ≤ gb389)); have n5_ := Aside0.mk ((by rw [hg]; exact (below_size (by repeat (first | (with_reducible first | exact HB.out | apply below_alloc | apply pw_below_drewN | apply below_drew1) | exact HB.out))) : w.heap.size ≤ gb389)); clear HOa; clear HOb; clear HB; have HOa := n0_; have HOb := n1_; have HB := n2_; have BK389 := n3_; have GW389 := n4_; have GE389 := n5_; clear n0_ n1_ n2_ n3_ n4_ n5_; clear hb hbox hg) | ((with_reducible refine gate_dst (N := 6) rfl ?_); refine box_event ?hg (N := 6) ?hd (cs := #[.bool false, .slice none 0 0]) (t := 27) ?hr ?_; (case hd => rfl); (case hg => rfl); (case hr => first | (go_simp; done) | (go_simp; rfl)); intro gb390 hg w35 hbox hb; have n0_ := Aside0.mk (Kd.V_below (Kd.V_elderB (by (with_reducible repeat (first | apply Kd.V_alloc | apply Kd.V_drewN | apply Kd.V_drew)); exact HOa.out) gb390 (Nat.le_of_eq hg.symm)) hb); have n1_ := Aside0.mk (Kd.V_below (Kd.V_elderB (by (with_reducible repeat (first | apply Kd.V_alloc | apply Kd.V_drewN | apply Kd.V_drew)); exact HOb.out) gb390 (Nat.le_of_eq hg.symm)) hb); have n2_ := Aside0.mk (blk_below (g := gb389) (o := .cells #[.bool false, .slice none 0 0] 27 (0, 0)) (by (with_reducible repeat (first | refine blk_drewN ?_ _ | refine blk_drew ?_ | refine blk_alloc ?_ _)); exact BK389.out) hb); have n3_ := Aside0.mk (below_step (by repeat (first | (with_reducible first | exact HB.out | apply below_alloc | apply pw_below_drewN | apply below_drew1 | refine below_set ?_ GE389.out) | exact HB.out)) hb); have n4_ := Aside0.mk (hbox); have n5_ := Aside0.mk ((by rw [hg]; exact (below_size (by repeat (first | (with_reducible first | exact HB.out | apply below_alloc | apply pw_below_drewN | apply below_drew1 | refine below_set ?_ GE389.out) | exact HB.out))) : w.heap.size ≤ gb390)); have n6_ := Aside0.mk ((by rw [hg]; exact (below_size (by repeat (first | (with_reducible first | exact HB.out | apply below_alloc | apply pw_below_drewN | apply below_drew1 | refine below_set ?_ GE389.out) | exact HB.out))) : w.heap.size ≤ gb390)); have n7_ := Aside0.mk ((by rw [hg]; exact Nat.ne_of_lt (blk_lt (g := gb389) (o := .cells #[.bool false, .slice none 0 0] 27 (0, 0)) (by (with_reducible repeat (first | refine blk_drewN ?_ _ | refine blk_drew ?_ | refine blk_alloc ?_ _)); exact BK389.out)) : gb389 ≠ gb390)); have n8_ := Aside0.mk ((by rw [hg]; exact Nat.ne_of_gt (blk_lt (g := gb389) (o := .cells #[.bool false, .slice none 0 0] 27 (0, 0)) (by (with_reducible repeat (first | refine blk_drewN ?_ _ | refine blk_drew ?_ | refine blk_alloc ?_ _)); exact BK389.out)) : gb390 ≠ gb389)); clear HOa; clear HOb; clear BK389; clear HB; have HOa := n0_; have HOb := n1_; have BK389 := n2_; have HB := n3_; have BK390 := n4_; have GW390 := n5_; have GE390 := n6_; have NB389_390 := n7_; have NB390_389 := n8_; clear n0_ n1_ n2_ n3_ n4_ n5_ n6_ n7_ n8_; clear hb hbox hg; have hnb36 := NB389_390.out; have hnc36 := NB390_389.out; have hcz37_0 : w35.cell? ⟨gb389, 0, none⟩ = some (.bool false) := (blk_cell BK389.out 0).trans rfl; have hcz37_1 : w35.cell? ⟨gb389, 1, none⟩ = some (.slice none 0 0) := (blk_cell BK389.out 1).trans rfl; have hfz37_0 := blk_frozen BK389.out 0; have hfz37_1 := blk_frozen BK389.out 1; obtain ⟨Ao38, co38, eo38⟩ := Kd.V_slice HOa.out; subst eo38; have hcz39_0 : w35.cell? ⟨gb390, 0, none⟩ = some (.bool false) := (blk_cell BK390.out 0).trans rfl; have hcz39_1 : w35.cell? ⟨gb390, 1, none⟩ = some (.slice none 0 0) := (blk_cell BK390.out 1).trans rfl; have hfz39_0 := blk_frozen BK390.out 0; have hfz39_1 := blk_frozen BK390.out 1; obtain ⟨Ao40, co40, eo40⟩ := Kd.V_slice HOb.out; subst eo40))
     have n0_ : Aside0 (Kd.V (Kd.int .u32) 44 ((((w35.setCell ⟨gb389, 0, none⟩ (.bool t381)).setCell ⟨gb389, 1, none⟩ (.slice Ao38 t382.length co38)).setCell ⟨gb390, 0, none⟩ (.bool t385)).setCell ⟨gb390, 1, none⟩ (.slice Ao40 t386.length co40)) w.heap.size (fun k_ => k_ ≠ gb389 ∧ k_ ≠ gb390) (.slice Ao38 t382.length co38) t382) := ⟨by (with_reducible repeat (first | apply Kd.V_alloc | apply Kd.V_drewN | apply Kd.V_drew)); exact Kd.V_mono (Kd.V_far (p := ⟨gb390, 1, none⟩) (Kd.V_far (p := ⟨gb390, 0, none⟩) (Kd.V_far (p := ⟨gb389, 1, none⟩) (Kd.V_far (p := ⟨gb389, 0, none⟩) (Kd.V_mono (Kd.V_mono HOa.out (fun k_ hk => (⟨hk, hk.1.2⟩ : _ ∧ k_ ≠ gb389))) (fun k_ hk => (⟨hk, hk.1.2⟩ : _ ∧ k_ ≠ gb390))) (fun _ hk => hk.1.2) (.bool t381)) (fun _ hk => hk.1.2) (.slice Ao38 t382.length co38)) (fun _ hk => hk.2) (.bool t385)) (fun _ hk => hk.2) (.slice Ao40 t386.length co40)) (fun _ hk => ⟨hk.1.1.1.2, hk.1.1.2⟩)⟩
     have n1_ : Aside0 (Kd.V (Kd.int .u32) 44 ((((w35.setCell ⟨gb389, 0, none⟩ (.bool t381)).setCell ⟨gb389, 1, none⟩ (.slice Ao38 t382.length co38)).setCell ⟨gb390, 0, none⟩ (.bool t385)).setCell ⟨gb390, 1, none⟩ (.slice Ao40 t386.length co40)) w.heap.size (fun k_ => k_ ≠ gb389 ∧ k_ ≠ gb390) (.slice Ao40 t386.length co40) t386) := ⟨by (with_reducible repeat (first | apply Kd.V_alloc | apply Kd.V_drewN | apply Kd.V_drew)); exact Kd.V_mono (Kd.V_far (p := ⟨gb390, 1, none⟩) (Kd.V_far (p := ⟨gb390, 0, none⟩) (Kd.V_far (p := ⟨gb389, 1, none⟩) (Kd.V_far (p := ⟨gb389, 0, none⟩) (Kd.V_mono (Kd.V_mono HOb.out (fun k_ hk => (⟨hk, hk.1.2⟩ : _ ∧ k_ ≠ gb389))) (fun k_ hk => (⟨hk, hk.1.2⟩ : _ ∧ k_ ≠ gb390))) (fun _ hk => hk.1.2) (.bool t381)) (fun _ hk => hk.1.2) (.slice Ao38 t382.length co38)) (fun _ hk => hk.2) (.bool t385)) (fun _ hk => hk.2) (.slice Ao40 t386.length co40)) (fun _ hk => ⟨hk.1.1.1.2, hk.1.1.2⟩)⟩
     have n2_ : Aside0 (((((w35.setCell ⟨gb389, 0, none⟩ (.bool t381)).setCell ⟨gb389, 1, none⟩ (.slice Ao38 t382.length co38)).setCell ⟨gb390, 0, none⟩ (.bool t385)).setCell ⟨gb390, 1, none⟩ (.slice Ao40 t386.length co40)).heap[gb389]? = some (.cells #[.bool t381, .slice Ao38 t382.length co38] 27 (0, 0))) := ⟨by (with_reducible repeat (first | refine blk_drewN ?_ _ | refine blk_drew ?_ | refine blk_alloc ?_ _)); refine blk_far ?_ NB389_390.out _; (with_reducible repeat (first | refine blk_drewN ?_ _ | refine blk_drew ?_ | refine blk_alloc ?_ _)); refine blk_far ?_ NB389_390.out _; (with_reducible repeat (first | refine blk_drewN ?_ _ | refine blk_drew ?_ | refine blk_alloc ?_ _)); refine blk_put (cs := #[.bool t381, .slice none 0 0]) ?_ 1 _ rfl; (with_reducible repeat (first | refine blk_drewN ?_ _ | refine blk_drew ?_ | refine blk_alloc ?_ _)); refine blk_put (cs := #[.bool false, .slice none 0 0]) ?_ 0 _ rfl; (with_reducible repeat (first | refine blk_drewN ?_ _ | refine blk_drew ?_ | refine blk_alloc ?_ _)); exact BK389.out⟩
     have n3_ : Aside0 (((((w35.setCell ⟨gb389, 0, none⟩ (.bool t381)).setCell ⟨gb389, 1, none⟩ (.slice Ao38 t382.length co38)).setCell ⟨gb390, 0, none⟩ (.bool t385)).setCell ⟨gb390, 1, none⟩ (.slice Ao40 t386.length co40)).heap[gb390]? = some (.cells #[.bool t385, .slice Ao40 t386.length co40] 27 (0, 0))) := ⟨by (with_reducible repeat (first | refine blk_drewN ?_ _ | refine blk_drew ?_ | refine blk_alloc ?_ _)); refine blk_put (cs := #[.bool t385, .slice none 0 0]) ?_ 1 _ rfl; (with_reducible repeat (first | refine blk_drewN ?_ _ | refine blk_drew ?_ | refine blk_alloc ?_ _)); refine blk_put (cs := #[.bool false, .slice none 0 0]) ?_ 0 _ rfl; (with_reducible repeat (first | refine blk_drewN ?_ _ | refine blk_drew ?_ | refine blk_alloc ?_ _)); refine blk_far ?_ NB390_389.out _; (with_reducible repeat (first | refine blk_drewN ?_ _ | refine blk_drew ?_ | refine blk_alloc ?_ _)); refine blk_far ?_ NB390_389.out _; (with_reducible repeat (first | refine blk_drewN ?_ _ | refine blk_drew ?_ | refine blk_alloc ?_ _)); exact BK390.out⟩
     have n4_ : Aside0 (Below w.heap.size w ((((w35.setCell ⟨gb389, 0, none⟩ (.bool t381)).setCell ⟨gb389, 1, none⟩ (.slice Ao38 t382.length co38)).setCell ⟨gb390, 0, none⟩ (.bool t385)).setCell ⟨gb390, 1, none⟩ (.slice Ao40 t386.length co40))) := ⟨by repeat (first | (with_reducible first | exact HB.out | apply below_alloc | apply pw_below_drewN | apply below_drew1 | refine below_set ?_ GE389.out | refine below_set ?_ GE390.out) | exact HB.out)⟩
     (try clear HOa);(try clear HOb);(try clear BK389);(try clear BK390);(try clear HB)
     generalize ((((w35.setCell ⟨gb389, 0, none⟩ (.bool t381)).setCell ⟨gb389, 1, none⟩ (.slice Ao38 t382.length co38)).setCell ⟨gb390, 0, none⟩ (.bool t385)).setCell ⟨gb390, 1, none⟩ (.slice Ao40 t386.length co40)) = w41 at n0_ n1_ n2_ n3_ n4_ ⊢
     have HOa := n0_;have HOb := n1_;have BK389 := n2_;have BK390 := n3_;have HB := n4_;clear n0_ n1_ n2_ n3_ n4_
     have n0_ := Aside0.mk (Kd.V_drew HOa.out)
     have n1_ := Aside0.mk (Kd.V_drew HOb.out)
     have n2_ := Aside0.mk (blk_drew BK389.out)
     have n3_ := Aside0.mk (blk_drew BK390.out)
     have n4_ := Aside0.mk (below_drew1 HB.out)
     clear HOa HOb BK389 BK390 HB;have HOa := n0_;have HOb := n1_;have BK389 := n2_;have BK390 := n3_;have HB := n4_;clear n0_ n1_ n2_ n3_ n4_
     refine start_ (n := 15) (S := fun w' => w'.cell? ⟨gb389, 0, none⟩ = some (.bool t381) ∧ w'.cell? ⟨gb389, 1, none⟩ = some (.slice Ao38 t382.length co38) ∧ w'.cell? ⟨gb390, 0, none⟩ = some (.bool t385) ∧ w'.cell? ⟨gb390, 1, none⟩ = some (.slice Ao40 t386.length co40)) (ds := []) #[false, false, false, false, false, false, false, false, false, false, false, false, false, false, false] (by kernel_rfl) rfl rfl ⟨(blk_cell BK389.out 0).trans rfl, (blk_cell BK389.out 1).trans rfl, (blk_cell BK390.out 0).trans rfl, (blk_cell BK390.out 1).trans rfl⟩ (fun hHeld => ?_); refine with_tabW laws_FnMulUint16.tab2 laws_FnMulUint16.bits2 (fun HT_ HW_ => ?_)
     generalize w41.drew = w42 at HOa HOb BK389 BK390 HB hHeld ⊢
     refine pure_ (i := 0) (N := some 18) (v := ?_) (a' := ?_) #[true, false, false, false, false, false, false, false, false, false, false, false, false, false, false] rfl rfl (any_of HT_.out (by kernel_rfl)) (fun _ _ _ h => h) (Or.inl ⟨by rfl, ?_⟩) ?_ ?_
     rotate_left
     ·intro w'
      go_simp
      with_reducible rfl
     rotate_left
     ·simp only [Act.put, List.setIfInBounds_toArray, List.set_cons_zero, List.set_cons_succ, i64_w, i32_w]
      rfl
     refine pure_ (i := 1) (N := some 19) (v := ?_) (a' := ?_) #[true, true, false, false, false, false, false, false, false, false, false, false, false, false, false] rfl rfl (any_of HT_.out (by kernel_rfl)) (fun _ _ _ h => h) (Or.inl ⟨by rfl, ?_⟩) ?_ ?_
     rotate_left
     ·intro w'
      go_simp
      with_reducible rfl
     rotate_left
     ·simp only [Act.put, List.setIfInBounds_toArray, List.set_cons_zero, List.set_cons_succ, i64_w, i32_w]
      rfl
     refine pure_ (i := 3) (N := some 21) (v := ?_) (a' := ?_) #[true, true, false, true, false, false, false, false, false, false, false, false, false, false, false] rfl rfl (any_of HT_.out (by kernel_rfl)) (fun _ _ _ h => h) (Or.inl ⟨by rfl, ?_⟩) ?_ ?_
     rotate_left
     ·intro w'
      go_simp
      with_reducible rfl
     rotate_left
     ·simp only [Act.put, List.setIfInBounds_toArray, List.set_cons_zero, List.set_cons_succ, i64_w, i32_w]
      rfl
     refine pure_ (i := 4) (N := some 22) (v := ?_) (a' := ?_) #[true, true, false, true, true, false, false, false, false, false, false, false, false, false, false] rfl rfl (any_of HT_.out (by kernel_rfl)) (fun _ _ _ h => h) (Or.inl ⟨by rfl, ?_⟩) ?_ ?_
     rotate_left
     ·intro w'
      go_simp
      with_reducible rfl
     rotate_left
     ·simp only [Act.put, List.setIfInBounds_toArray, List.set_cons_zero, List.set_cons_succ, i64_w, i32_w]
      rfl
     refine take_ (i := 7) (N := some 25) (v := ?_) (a' := ?_) #[true, true, false, true, true, false, false, true, false, false, false, false, false, false, false] rfl rfl (take_ofW HT_.out HW_.out (by kernel_rfl)) (fun _ _ _ h => h) (Or.inl ⟨by rfl, ?_⟩) hHeld ?_ ?_
     rotate_left
     ·rintro w' ⟨s0, s1, s2, s3⟩
      go_simp
      with_reducible rfl
     rotate_left
     ·simp only [Act.put, List.setIfInBounds_toArray, List.set_cons_zero, List.set_cons_succ, i64_w, i32_w]
      rfl
     refine take_ (i := 8) (N := some 26) (v := ?_) (a' := ?_) #[true, true, false, true, true, false, false, true, true, false, false, false, false, false, false] rfl rfl (take_ofW HT_.out HW_.out (by kernel_rfl)) (fun _ _ _ h => h) (Or.inl ⟨by rfl, ?_⟩) hHeld ?_ ?_
     rotate_left
     ·rintro w' ⟨s0, s1, s2, s3⟩
      go_simp
      with_reducible rfl
     rotate_left
     ·simp only [Act.put, List.setIfInBounds_toArray, List.set_cons_zero, List.set_cons_succ, i64_w, i32_w]
      rfl
     refine one_ (i := 2) (N := some 20) #[true, true, true, true, true, false, false, true, true, false, false, false, false, false, false] rfl rfl (one_of HT_.out (by kernel_rfl)) (by decide) (fun K hK => ?_)
     refine goes_ Try.func30 (by kernel_rfl) rfl #[.int .u64 (IntKind.u64.wrap (a0))] (by rfl) rfl rfl (by (try simp only [List.map_toArray, List.map_cons, List.map_nil]); first | done | rfl | (simp only [List.length_drop, List.length_take]; rfl)) ?_
     with_reducible refine (spec_WideUint.calls k (IntKind.u64.wrap (a0)) t391 t392 _ A4.out).mono ?_
     rintro e w43 ⟨v393, rfl, ho0, hb⟩
     refine ⟨_, rfl, ?_⟩
     have n0_ := Aside0.mk (Kd.V_below (by (with_reducible repeat (first | apply Kd.V_alloc | apply Kd.V_drewN | apply Kd.V_drew)); exact HOa.out) hb)
     have n1_ := Aside0.mk (Kd.V_below (by (with_reducible repeat (first | apply Kd.V_alloc | apply Kd.V_drewN | apply Kd.V_drew)); exact HOb.out) hb)
     have n2_ := Aside0.mk (Kd.V_lower (Kd.V_mono (ok' := fun k_ => k_ ≠ gb389 ∧ k_ ≠ gb390) ho0 (fun k_ hk_ => ⟨(Kd.freshB (g := gb389) (o := .cells #[.bool t381, .slice Ao38 t382.length co38] 27 (0, 0)) (by (with_reducible repeat (first | refine blk_drewN ?_ _ | refine blk_drew ?_ | refine blk_alloc ?_ _)); exact BK389.out) k_ hk_), (Kd.freshB (g := gb390) (o := .cells #[.bool t385, .slice Ao40 t386.length co40] 27 (0, 0)) (by (with_reducible repeat (first | refine blk_drewN ?_ _ | refine blk_drew ?_ | refine blk_alloc ?_ _)); exact BK390.out) k_ hk_)⟩)) (below_size (by repeat (first | (with_reducible first | exact HB.out | apply below_alloc | apply pw_below_drewN | apply below_drew1 | refine below_set ?_ GE389.out | refine below_set ?_ GE390.out) | exact HB.out))))
     have n3_ := Aside0.mk (blk_below (g := gb389) (o := .cells #[.bool t381, .slice Ao38 t382.length co38] 27 (0, 0)) (by (with_reducible repeat (first | refine blk_drewN ?_ _ | refine blk_drew ?_ | refine blk_alloc ?_ _)); exact BK389.out) hb)
     have n4_ := Aside0.mk (blk_below (g := gb390) (o := .cells #[.bool t385, .slice Ao40 t386.length co40] 27 (0, 0)) (by (with_reducible repeat (first | refine blk_drewN ?_ _ | refine blk_drew ?_ | refine blk_alloc ?_ _)); exact BK390.out) hb)
     have n5_ := Aside0.mk (below_step (by repeat (first | (with_reducible first | exact HB.out | apply below_alloc | apply pw_below_drewN | apply below_drew1 | refine below_set ?_ GE389.out | refine below_set ?_ GE390.out) | exact HB.out)) hb)
     clear HOa HOb BK389 BK390 HB;have HOa := n0_;have HOb := n1_;have HOc := n2_;have BK389 := n3_;have BK390 := n4_;have HB := n5_;clear n0_ n1_ n2_ n3_ n4_ n5_;(try clear hb);(try clear hb2);(try clear hk);(try clear hi);(try clear ho0)
     refine hK.out _ _ ⟨(blk_cell BK389.out 0).trans rfl, (blk_cell BK389.out 1).trans rfl, (blk_cell BK390.out 0).trans rfl, (blk_cell BK390.out 1).trans rfl⟩ (fun hHeld => ?_)
     clear hK K
     refine norm_ (a' := ?_) ?_ ?_
     rotate_left
     ·show Act.put _ (some 20) _ = _
      simp only [Act.put, List.setIfInBounds_toArray, List.set_cons_zero, List.set_cons_succ, i64_w, i32_w]
      rfl
     refine one_ (i := 5) (N := some 23) #[true, true, true, true, true, true, false, true, true, false, false, false, false, false, false] rfl rfl (one_of HT_.out (by kernel_rfl)) (by decide) (fun K hK => ?_)
     refine goes_ Try.func30 (by kernel_rfl) rfl #[.int .u64 (IntKind.u64.wrap (a1))] (by rfl) rfl rfl (by (try simp only [List.map_toArray, List.map_cons, List.map_nil]); first | done | rfl | (simp only [List.length_drop, List.length_take]; rfl)) ?_
     with_reducible refine (spec_WideUint.calls k (IntKind.u64.wrap (a1)) t395 t396 _ A5.out).mono ?_
     rintro e w44 ⟨v397, rfl, ho0, hb⟩
     refine ⟨_, rfl, ?_⟩
     have n0_ := Aside0.mk (Kd.V_below (by (with_reducible repeat (first | apply Kd.V_alloc | apply Kd.V_drewN | apply Kd.V_drew)); exact HOa.out) hb)
     have n1_ := Aside0.mk (Kd.V_below (by (with_reducible repeat (first | apply Kd.V_alloc | apply Kd.V_drewN | apply Kd.V_drew)); exact HOb.out) hb)
     have n2_ := Aside0.mk (Kd.V_below (by (with_reducible repeat (first | apply Kd.V_alloc | apply Kd.V_drewN | apply Kd.V_drew)); exact HOc.out) hb)
     have n3_ := Aside0.mk (Kd.V_lower (Kd.V_mono (ok' := fun k_ => k_ ≠ gb389 ∧ k_ ≠ gb390) ho0 (fun k_ hk_ => ⟨(Kd.freshB (g := gb389) (o := .cells #[.bool t381, .slice Ao38 t382.length co38] 27 (0, 0)) (by (with_reducible repeat (first | refine blk_drewN ?_ _ | refine blk_drew ?_ | refine blk_alloc ?_ _)); exact BK389.out) k_ hk_), (Kd.freshB (g := gb390) (o := .cells #[.bool t385, .slice Ao40 t386.length co40] 27 (0, 0)) (by (with_reducible repeat (first | refine blk_drewN ?_ _ | refine blk_drew ?_ | refine blk_alloc ?_ _)); exact BK390.out) k_ hk_)⟩)) (below_size (by repeat (first | (with_reducible first | exact HB.out | apply below_alloc | apply pw_below_drewN | apply below_drew1 | refine below_set ?_ GE389.out | refine below_set ?_ GE390.out) | exact HB.out))))
     have n4_ := Aside0.mk (blk_below (g := gb389) (o := .cells #[.bool t381, .slice Ao38 t382.length co38] 27 (0, 0)) (by (with_reducible repeat (first | refine blk_drewN ?_ _ | refine blk_drew ?_ | refine blk_alloc ?_ _)); exact BK389.out) hb)
     have n5_ := Aside0.mk (blk_below (g := gb390) (o := .cells #[.bool t385, .slice Ao40 t386.length co40] 27 (0, 0)) (by (with_reducible repeat (first | refine blk_drewN ?_ _ | refine blk_drew ?_ | refine blk_alloc ?_ _)); exact BK390.out) hb)
     have n6_ := Aside0.mk (below_step (by repeat (first | (with_reducible first | exact HB.out | apply below_alloc | apply pw_below_drewN | apply below_drew1 | refine below_set ?_ GE389.out | refine below_set ?_ GE390.out) | exact HB.out)) hb)
     clear HOa HOb HOc BK389 BK390 HB;have HOa := n0_;have HOb := n1_;have HOc := n2_;have HOd := n3_;have BK389 := n4_;have BK390 := n5_;have HB := n6_;clear n0_ n1_ n2_ n3_ n4_ n5_ n6_;(try clear hb);(try clear hb2);(try clear hk);(try clear hi);(try clear ho0)
     obtain ⟨Ao45, co45, eo45⟩ := Kd.V_slice HOc.out
     (first | subst eo45 | (injection eo45 with f1_ f2_ f3_; have f4_ := f1_.symm; have f5_ := f3_.symm; clear f1_ f2_ f3_; subst f4_; subst f5_))
     obtain ⟨Ao46, co46, eo46⟩ := Kd.V_slice HOd.out
     (first | subst eo46 | (injection eo46 with f1_ f2_ f3_; have f4_ := f1_.symm; have f5_ := f3_.symm; clear f1_ f2_ f3_; subst f4_; subst f5_))
     refine hK.out _ _ ⟨(blk_cell BK389.out 0).trans rfl, (blk_cell BK389.out 1).trans rfl, (blk_cell BK390.out 0).trans rfl, (blk_cell BK390.out 1).trans rfl⟩ (fun hHeld => ?_)
     clear hK K
     refine norm_ (a' := ?_) ?_ ?_
     rotate_left
     ·show Act.put _ (some 23) _ = _
      simp only [Act.put, List.setIfInBounds_toArray, List.set_cons_zero, List.set_cons_succ, i64_w, i32_w]
      rfl
     refine one_ (i := 6) (N := some 24) #[true, true, true, true, true, true, true, true, true, false, false, false, false, false, false] rfl rfl (one_of HT_.out (by kernel_rfl)) (by decide) (fun K hK => ?_)
     refine goes_ Try.func29 (by kernel_rfl) rfl #[.agg #[.bool t391, .slice Ao45 t392.length co45], .agg #[.bool t395, .slice Ao46 t396.length co46]] (by rfl) rfl rfl (by (try simp only [List.map_toArray, List.map_cons, List.map_nil]); first | done | rfl | (simp only [List.length_drop, List.length_take]; rfl)) ?_
     with_reducible refine (spec_WideMul.calls k t391 _ _ t392 t395 _ _ t396 t399 t400 _ ?side1 ?side2 ?side3 ?side4 A6.out).mono ?_
     (case side1 => repeat (first | exact (Kd.V_reads' HOc.out).2.2 | (with_reducible refine Kd.C_alloc ?_ _) | (with_reducible refine Kd.C_drewN ?_ _) | (with_reducible refine Kd.C_drew ?_)))
     (case side2 => exact (Kd.V_reads' HOc.out).2.1)
     (case side3 => repeat (first | exact (Kd.V_reads' HOd.out).2.2 | (with_reducible refine Kd.C_alloc ?_ _) | (with_reducible refine Kd.C_drewN ?_ _) | (with_reducible refine Kd.C_drew ?_)))
     (case side4 => exact (Kd.V_reads' HOd.out).2.1)
     rintro e w47 ⟨v401, rfl, ho0, hb⟩
     refine ⟨_, rfl, ?_⟩
     have n0_ := Aside0.mk (Kd.V_below (by (with_reducible repeat (first | apply Kd.V_alloc | apply Kd.V_drewN | apply Kd.V_drew)); exact HOa.out) hb)
     have n1_ := Aside0.mk (Kd.V_below (by (with_reducible repeat (first | apply Kd.V_alloc | apply Kd.V_drewN | apply Kd.V_drew)); exact HOb.out) hb)
     have n2_ := Aside0.mk (Kd.V_below (by (with_reducible repeat (first | apply Kd.V_alloc | apply Kd.V_drewN | apply Kd.V_drew)); exact HOc.out) hb)
     have n3_ := Aside0.mk (Kd.V_below (by (with_reducible repeat (first | apply Kd.V_alloc | apply Kd.V_drewN | apply Kd.V_drew)); exact HOd.out) hb)
     have n4_ := Aside0.mk (Kd.V_lower (Kd.V_mono (ok' := fun k_ => k_ ≠ gb389 ∧ k_ ≠ gb390) ho0 (fun k_ hk_ => ⟨(Kd.freshB (g := gb389) (o := .cells #[.bool t381, .slice Ao38 t382.length co38] 27 (0, 0)) (by (with_reducible repeat (first | refine blk_drewN ?_ _ | refine blk_drew ?_ | refine blk_alloc ?_ _)); exact BK389.out) k_ hk_), (Kd.freshB (g := gb390) (o := .cells #[.bool t385, .slice Ao40 t386.length co40] 27 (0, 0)) (by (with_reducible repeat (first | refine blk_drewN ?_ _ | refine blk_drew ?_ | refine blk_alloc ?_ _)); exact BK390.out) k_ hk_)⟩)) (below_size (by repeat (first | (with_reducible first | exact HB.out | apply below_alloc | apply pw_below_drewN | apply below_drew1 | refine below_set ?_ GE389.out | refine below_set ?_ GE390.out) | exact HB.out))))
     have n5_ := Aside0.mk (blk_below (g := gb389) (o := .cells #[.bool t381, .slice Ao38 t382.length co38] 27 (0, 0)) (by (with_reducible repeat (first | refine blk_drewN ?_ _ | refine blk_drew ?_ | refine blk_alloc ?_ _)); exact BK389.out) hb)
     have n6_ := Aside0.mk (blk_below (g := gb390) (o := .cells #[.bool t385, .slice Ao40 t386.length co40] 27 (0, 0)) (by (with_reducible repeat (first | refine blk_drewN ?_ _ | refine blk_drew ?_ | refine blk_alloc ?_ _)); exact BK390.out) hb)
     have n7_ := Aside0.mk (below_step (by repeat (first | (with_reducible first | exact HB.out | apply below_alloc | apply pw_below_drewN | apply below_drew1 | refine below_set ?_ GE389.out | refine below_set ?_ GE390.out) | exact HB.out)) hb)
     clear HOa HOb HOc HOd BK389 BK390 HB;have HOa := n0_;have HOb := n1_;have HOc := n2_;have HOd := n3_;have HO402 := n4_;have BK389 := n5_;have BK390 := n6_;have HB := n7_;clear n0_ n1_ n2_ n3_ n4_ n5_ n6_ n7_;(try clear hb);(try clear hb2);(try clear hk);(try clear hi);(try clear ho0)
     obtain ⟨Ao48, co48, eo48⟩ := Kd.V_slice HO402.out
     (first | subst eo48 | (injection eo48 with f1_ f2_ f3_; have f4_ := f1_.symm; have f5_ := f3_.symm; clear f1_ f2_ f3_; subst f4_; subst f5_))
     refine hK.out _ _ ⟨(blk_cell BK389.out 0).trans rfl, (blk_cell BK389.out 1).trans rfl, (blk_cell BK390.out 0).trans rfl, (blk_cell BK390.out 1).trans rfl⟩ (fun hHeld => ?_)
     clear hK K
     refine norm_ (a' := ?_) ?_ ?_
     rotate_left
     ·show Act.put _ (some 24) _ = _
      simp only [Act.put, List.setIfInBounds_toArray, List.set_cons_zero, List.set_cons_succ, i64_w, i32_w]
      rfl
     refine one_ (i := 9) (N := some 27) #[true, true, true, true, true, true, true, true, true, true, false, false, false, false, false] rfl rfl (one_of HT_.out (by kernel_rfl)) (by decide) (fun K hK => ?_)
     refine goes_ Try.func26 (by kernel_rfl) rfl #[.agg #[.bool t399, .slice Ao48 t400.length co48], .agg #[.bool t381, .slice Ao38 t382.length co38], .agg #[.bool t385, .slice Ao40 t386.length co40]] (by rfl) rfl rfl (by (try simp only [List.map_toArray, List.map_cons, List.map_nil]); first | done | rfl | (simp only [List.length_drop, List.length_take]; rfl)) ?_
     with_reducible refine (laws_fitted.calls k t399 _ _ t400 t381 _ _ t382 t385 _ _ t386 t403 true _ ?side1 ?side2 ?side3 ?side4 ?side5 ?side6 A7.out).mono ?_
     (case side1 => repeat (first | exact (Kd.V_reads' HO402.out).2.2 | (with_reducible refine Kd.C_alloc ?_ _) | (with_reducible refine Kd.C_drewN ?_ _) | (with_reducible refine Kd.C_drew ?_)))
     (case side2 => exact (Kd.V_reads' HO402.out).2.1)
     (case side3 => repeat (first | exact (Kd.V_reads' HOa.out).2.2 | (with_reducible refine Kd.C_alloc ?_ _) | (with_reducible refine Kd.C_drewN ?_ _) | (with_reducible refine Kd.C_drew ?_)))
     (case side4 => exact (Kd.V_reads' HOa.out).2.1)
     (case side5 => repeat (first | exact (Kd.V_reads' HOb.out).2.2 | (with_reducible refine Kd.C_alloc ?_ _) | (with_reducible refine Kd.C_drewN ?_ _) | (with_reducible refine Kd.C_drew ?_)))
     (case side6 => exact (Kd.V_reads' HOb.out).2.1)
     rintro e w49 ⟨rfl, hb⟩
     refine ⟨_, rfl, ?_⟩
     have n0_ := Aside0.mk (Kd.V_below (by (with_reducible repeat (first | apply Kd.V_alloc | apply Kd.V_drewN | apply Kd.V_drew)); exact HOa.out) hb)
     have n1_ := Aside0.mk (Kd.V_below (by (with_reducible repeat (first | apply Kd.V_alloc | apply Kd.V_drewN | apply Kd.V_drew)); exact HOb.out) hb)
     have n2_ := Aside0.mk (Kd.V_below (by (with_reducible repeat (first | apply Kd.V_alloc | apply Kd.V_drewN | apply Kd.V_drew)); exact HOc.out) hb)
     have n3_ := Aside0.mk (Kd.V_below (by (with_reducible repeat (first | apply Kd.V_alloc | apply Kd.V_drewN | apply Kd.V_drew)); exact HOd.out) hb)
     have n4_ := Aside0.mk (Kd.V_below (by (with_reducible repeat (first | apply Kd.V_alloc | apply Kd.V_drewN | apply Kd.V_drew)); exact HO402.out) hb)
     have n5_ := Aside0.mk (blk_below (g := gb389) (o := .cells #[.bool t381, .slice Ao38 t382.length co38] 27 (0, 0)) (by (with_reducible repeat (first | refine blk_drewN ?_ _ | refine blk_drew ?_ | refine blk_alloc ?_ _)); exact BK389.out) hb)
     have n6_ := Aside0.mk (blk_below (g := gb390) (o := .cells #[.bool t385, .slice Ao40 t386.length co40] 27 (0, 0)) (by (with_reducible repeat (first | refine blk_drewN ?_ _ | refine blk_drew ?_ | refine blk_alloc ?_ _)); exact BK390.out) hb)
     have n7_ := Aside0.mk (below_step (by repeat (first | (with_reducible first | exact HB.out | apply below_alloc | apply pw_below_drewN | apply below_drew1 | refine below_set ?_ GE389.out | refine below_set ?_ GE390.out) | exact HB.out)) hb)
     clear HOa HOb HOc HOd HO402 BK389 BK390 HB;have HOa := n0_;have HOb := n1_;have HOc := n2_;have HOd := n3_;have HO402 := n4_;have BK389 := n5_;have BK390 := n6_;have HB := n7_;clear n0_ n1_ n2_ n3_ n4_ n5_ n6_ n7_;(try clear hb);(try clear hb2);(try clear hk);(try clear hi)
     refine hK.out _ _ ⟨(blk_cell BK389.out 0).trans rfl, (blk_cell BK389.out 1).trans rfl, (blk_cell BK390.out 0).trans rfl, (blk_cell BK390.out 1).trans rfl⟩ (fun hHeld => ?_)
     clear hK K
     refine norm_ (a' := ?_) ?_ ?_
     rotate_left
     ·show Act.put _ (some 27) _ = _
      simp only [Act.put, List.setIfInBounds_toArray, List.set_cons_zero, List.set_cons_succ, i64_w, i32_w]
      rfl
     refine pure_ (i := 10) (N := some 17) (v := ?_) (a' := ?_) #[true, true, true, true, true, true, true, true, true, true, true, false, false, false, false] rfl rfl (any_of HT_.out (by kernel_rfl)) (fun _ _ _ h => h) (Or.inl ⟨by rfl, ?_⟩) ?_ ?_
     rotate_left
     ·intro w'
      go_simp
      with_reducible rfl
     rotate_left
     ·simp only [Act.put, List.setIfInBounds_toArray, List.set_cons_zero, List.set_cons_succ, i64_w, i32_w]
      rfl
     refine pure_ (i := 11) (N := some 28) (v := ?_) (a' := ?_) #[true, true, true, true, true, true, true, true, true, true, true, true, false, false, false] rfl rfl (any_of HT_.out (by kernel_rfl)) (fun _ _ _ h => h) (Or.inl ⟨by rfl, ?_⟩) ?_ ?_
     rotate_left
     ·intro w'
      go_simp
      with_reducible rfl
     rotate_left
     ·simp only [Act.put, List.setIfInBounds_toArray, List.set_cons_zero, List.set_cons_succ, i64_w, i32_w]
      rfl
     refine pure_ (i := 12) (N := some 29) (v := ?_) (a' := ?_) #[true, true, true, true, true, true, true, true, true, true, true, true, true, false, false] rfl rfl (any_of HT_.out (by kernel_rfl)) (fun _ _ _ h => h) (Or.inl ⟨by rfl, ?_⟩) ?_ ?_
     rotate_left
     ·intro w'
      go_simp
      with_reducible rfl
     rotate_left
     ·simp only [Act.put, List.setIfInBounds_toArray, List.set_cons_zero, List.set_cons_succ, i64_w, i32_w]
      rfl
     refine pure_ (i := 13) (N := some 7) (v := ?_) (a' := ?_) #[true, true, true, true, true, true, true, true, true, true, true, true, true, true, false] rfl rfl (any_of HT_.out (by kernel_rfl)) (fun _ _ _ h => h) (Or.inl ⟨by rfl, ?_⟩) ?_ ?_
     rotate_left
     ·intro w'
      go_simp
      with_reducible rfl
     rotate_left
     ·simp only [Act.put, List.setIfInBounds_toArray, List.set_cons_zero, List.set_cons_succ, i64_w, i32_w]
      rfl
     refine pure_ (i := 14) (N := some 8) (v := ?_) (a' := ?_) #[true, true, true, true, true, true, true, true, true, true, true, true, true, true, true] rfl rfl (any_of HT_.out (by kernel_rfl)) (fun _ _ _ h => h) (Or.inl ⟨by rfl, ?_⟩) ?_ ?_
     rotate_left
     ·intro w'
      go_simp
      with_reducible rfl
     rotate_left
     ·simp only [Act.put, List.setIfInBounds_toArray, List.set_cons_zero, List.set_cons_succ, i64_w, i32_w]
      rfl
     refine done_ (done_of HT_.out (by kernel_rfl)) ?_
     try go_wp2_with (first | ((with_reducible refine gate_callee (f := 31) rfl ?_); refine goesL_ (some 33) rfl rfl Try.func31 (by kernel_rfl) rfl #[.int .u16 a0, .int .u16 a1] rfl (by (try simp only [List.map_toArray, List.map_cons, List.map_nil]); first | done | rfl | (simp only [List.length_drop, List.length_take]; rfl)) ?_; (with_reducible refine (impl_MulUint16.calls a0 a1 t405 t406 _ A8.out).mono ?_); rintro e w50 ⟨rfl, hb⟩; refine ⟨_, rfl, ?_⟩; have n0_ := Aside0.mk (Kd.V_below (by (with_reducible repeat (first | apply Kd.V_alloc | apply Kd.V_drewN | apply Kd.V_drew)); exact HOa.out) hb); have n1_ := Aside0.mk (Kd.V_below (by (with_reducible repeat (first | apply Kd.V_alloc | apply Kd.V_drewN | apply Kd.V_drew)); exact HOb.out) hb); have n2_ := Aside0.mk (Kd.V_below (by (with_reducible repeat (first | apply Kd.V_alloc | apply Kd.V_drewN | apply Kd.V_drew)); exact HOc.out) hb); have n3_ := Aside0.mk (Kd.V_below (by (with_reducible repeat (first | apply Kd.V_alloc | apply Kd.V_drewN | apply Kd.V_drew)); exact HOd.out) hb); have n4_ := Aside0.mk (Kd.V_below (by (with_reducible repeat (first | apply Kd.V_alloc | apply Kd.V_drewN | apply Kd.V_drew)); exact HO402.out) hb); have n5_ := Aside0.mk (blk_below (g := gb389) (o := .cells #[.bool t381, .slice Ao38 t382.length co38] 27 (0, 0)) (by (with_reducible repeat (first | refine blk_drewN ?_ _ | refine blk_drew ?_ | refine blk_alloc ?_ _)); exact BK389.out) hb); have n6_ := Aside0.mk (blk_below (g := gb390) (o := .cells #[.bool t385, .slice Ao40 t386.length co40] 27 (0, 0)) (by (with_reducible repeat (first | refine blk_drewN ?_ _ | refine blk_drew ?_ | refine blk_alloc ?_ _)); exact BK390.out) hb); have n7_ := Aside0.mk (below_step (by repeat (first | (with_reducible first | exact HB.out | apply below_alloc | apply pw_below_drewN | apply below_drew1 | refine below_set ?_ GE389.out | refine below_set ?_ GE390.out) | exact HB.out)) hb); clear HOa; clear HOb; clear HOc; clear HOd; clear HO402; clear BK389; clear BK390; clear HB; have HOa := n0_; have HOb := n1_; have HOc := n2_; have HOd := n3_; have HO402 := n4_; have BK389 := n5_; have BK390 := n6_; have HB := n7_; clear n0_ n1_ n2_ n3_ n4_ n5_ n6_ n7_; (try clear hb); (try clear hb2); (try clear hk); (try clear hi)) | ((with_reducible refine gate_callee (f := 31) rfl ?_); refine goesL_ (some 37) rfl rfl Try.func31 (by kernel_rfl) rfl #[.int .u16 2, .int .u16 3] rfl (by (try simp only [List.map_toArray, List.map_cons, List.map_nil]); first | done | rfl | (simp only [List.length_drop, List.length_take]; rfl)) ?_; (with_reducible refine (impl_MulUint16.calls 2 3 t407 false _ A9.out).mono ?_); rintro e w51 ⟨rfl, hb⟩; refine ⟨_, rfl, ?_⟩; have n0_ := Aside0.mk (Kd.V_below (by (with_reducible repeat (first | apply Kd.V_alloc | apply Kd.V_drewN | apply Kd.V_drew)); exact HOa.out) hb); have n1_ := Aside0.mk (Kd.V_below (by (with_reducible repeat (first | apply Kd.V_alloc | apply Kd.V_drewN | apply Kd.V_drew)); exact HOb.out) hb); have n2_ := Aside0.mk (Kd.V_below (by (with_reducible repeat (first | apply Kd.V_alloc | apply Kd.V_drewN | apply Kd.V_drew)); exact HOc.out) hb); have n3_ := Aside0.mk (Kd.V_below (by (with_reducible repeat (first | apply Kd.V_alloc | apply Kd.V_drewN | apply Kd.V_drew)); exact HOd.out) hb); have n4_ := Aside0.mk (Kd.V_below (by (with_reducible repeat (first | apply Kd.V_alloc | apply Kd.V_drewN | apply Kd.V_drew)); exact HO402.out) hb); have n5_ := Aside0.mk (blk_below (g := gb389) (o := .cells #[.bool t381, .slice Ao38 t382.length co38] 27 (0, 0)) (by (with_reducible repeat (first | refine blk_drewN ?_ _ | refine blk_drew ?_ | refine blk_alloc ?_ _)); exact BK389.out) hb); have n6_ := Aside0.mk (blk_below (g := gb390) (o := .cells #[.bool t385, .slice Ao40 t386.length co40] 27 (0, 0)) (by (with_reducible repeat (first | refine blk_drewN ?_ _ | refine blk_drew ?_ | refine blk_alloc ?_ _)); exact BK390.out) hb); have n7_ := Aside0.mk (below_step (by repeat (first | (with_reducible first | exact HB.out | apply below_alloc | apply pw_below_drewN | apply below_drew1 | refine below_set ?_ GE389.out | refine below_set ?_ GE390.out) | exact HB.out)) hb); clear HOa; clear HOb; clear HOc; clear HOd; clear HO402; clear BK389; clear BK390; clear HB; have HOa := n0_; have HOb := n1_; have HOc := n2_; have HOd := n3_; have HO402 := n4_; have BK389 := n5_; have BK390 := n6_; have HB := n7_; clear n0_ n1_ n2_ n3_ n4_ n5_ n6_ n7_; (try clear hb); (try clear hb2); (try clear hk); (try clear hi)))
     go_ret
     exact ⟨by first | rfl | (simp [errW_none, errW_some] <;> rfl) | (simp [*, errW_none, errW_some] <;> rfl), by repeat (first | (with_reducible first | exact HB.out | apply below_alloc | apply pw_below_drewN | apply below_drew1 | refine below_set ?_ GE389.out | refine below_set ?_ GE390.out) | exact HB.out)⟩
   ·rw [if_neg c12] at H
    have c12b0 : (t405 == (IntKind.u16.wrap (t403))) = false := beq_eq_false_iff_ne.mpr c12
    have c12b1 : (t405 != (IntKind.u16.wrap (t403))) = true := bne_iff_ne.mpr c12
    obtain rfl := Option.some.inj H
    go_enter Try.func12, Try.ntmps12
    try go_wp2_with (first | ((with_reducible refine gate_callee (f := 25) rfl ?_); refine goesL_ (some 14) rfl rfl Try.func25 (by kernel_rfl) rfl #[.int .i64 16, .bool false] rfl (by (try simp only [List.map_toArray, List.map_cons, List.map_nil]); first | done | rfl | (simp only [List.length_drop, List.length_take]; rfl)) ?_; (with_reducible refine (laws_bounds.calls k 16 false t381 t382 t385 t386 _ A3.out).mono ?_); rintro e w52 ⟨v383, v387, rfl, ho0, ho1, hb⟩; refine ⟨_, rfl, ?_⟩; have n0_ := Aside0.mk (Kd.V_lower (Kd.V_mono (ok' := fun k_ => True) ho0 (fun k_ hk_ => trivial)) (below_size (by repeat (first | (with_reducible first | exact HB.out | apply below_alloc | apply pw_below_drewN | apply below_drew1) | exact HB.out)))); have n1_ := Aside0.mk (Kd.V_lower (Kd.V_mono (ok' := fun k_ => True) ho1 (fun k_ hk_ => trivial)) (below_size (by repeat (first | (with_reducible first | exact HB.out | apply below_alloc | apply pw_below_drewN | apply below_drew1) | exact HB.out)))); have n2_ := Aside0.mk (below_step (by repeat (first | (with_reducible first | exact HB.out | apply below_alloc | apply pw_below_drewN | apply below_drew1) | exact HB.out)) hb); clear HB; have HOa := n0_; have HOb := n1_; have HB := n2_; clear n0_ n1_ n2_; (try clear hb); (try clear hb2); (try clear hk); (try clear hi); (try clear ho0); (try clear ho1)) | ((with_reducible refine gate_dst (N := 5) rfl ?_); refine box_event ?hg (N := 5) ?hd (cs := #[.bool false, .slice none 0 0]) (t := 27) ?hr ?_; (case hd => rfl); (case hg => rfl); (case hr => first | (go_simp; done) | (go_simp; rfl)); intro gb389 hg w53 hbox hb; have n0_ := Aside0.mk (Kd.V_below (Kd.V_elderB (by (with_reducible repeat (first | apply Kd.V_alloc | apply Kd.V_drewN | apply Kd.V_drew)); exact HOa.out) gb389 (Nat.le_of_eq hg.symm)) hb); have n1_ := Aside0.mk (Kd.V_below (Kd.V_elderB (by (with_reducible repeat (first | apply Kd.V_alloc | apply Kd.V_drewN | apply Kd.V_drew)); exact HOb.out) gb389 (Nat.le_of_eq hg.symm)) hb); have n2_ := Aside0.mk (below_step (by repeat (first | (with_reducible first | exact HB.out | apply below_alloc | apply pw_below_drewN | apply below_drew1) | exact HB.out)) hb); have n3_ := Aside0.mk (hbox); have n4_ := Aside0.mk ((by rw [hg]; exact (below_size (by repeat (first | (with_reducible first | exact HB.out | apply below_alloc | apply pw_below_drewN | apply below_drew1) | exact HB.out))) : w.heap.size ≤ gb389)); have n5_ := Aside0.mk ((by rw [hg]; exact (below_size (by repeat (first | (with_reducible first | exact HB.out | apply below_alloc | apply pw_below_drewN | apply below_drew1) | exact HB.out))) : w.heap.size ≤ gb389)); clear HOa; clear HOb; clear HB; have HOa := n0_; have HOb := n1_; have HB := n2_; have BK389 := n3_; have GW389 := n4_; have GE389 := n5_; clear n0_ n1_ n2_ n3_ n4_ n5_; clear hb hbox hg) | ((with_reducible refine gate_dst (N := 6) rfl ?_); refine box_event ?hg (N := 6) ?hd (cs := #[.bool false, .slice none 0 0]) (t := 27) ?hr ?_; (case hd => rfl); (case hg => rfl); (case hr => first | (go_simp; done) | (go_simp; rfl)); intro gb390 hg w54 hbox hb; have n0_ := Aside0.mk (Kd.V_below (Kd.V_elderB (by (with_reducible repeat (first | apply Kd.V_alloc | apply Kd.V_drewN | apply Kd.V_drew)); exact HOa.out) gb390 (Nat.le_of_eq hg.symm)) hb); have n1_ := Aside0.mk (Kd.V_below (Kd.V_elderB (by (with_reducible repeat (first | apply Kd.V_alloc | apply Kd.V_drewN | apply Kd.V_drew)); exact HOb.out) gb390 (Nat.le_of_eq hg.symm)) hb); have n2_ := Aside0.mk (blk_below (g := gb389) (o := .cells #[.bool false, .slice none 0 0] 27 (0, 0)) (by (with_reducible repeat (first | refine blk_drewN ?_ _ | refine blk_drew ?_ | refine blk_alloc ?_ _)); exact BK389.out) hb); have n3_ := Aside0.mk (below_step (by repeat (first | (with_reducible first | exact HB.out | apply below_alloc | apply pw_below_drewN | apply below_drew1 | refine below_set ?_ GE389.out) | exact HB.out)) hb); have n4_ := Aside0.mk (hbox); have n5_ := Aside0.mk ((by rw [hg]; exact (below_size (by repeat (first | (with_reducible first | exact HB.out | apply below_alloc | apply pw_below_drewN | apply below_drew1 | refine below_set ?_ GE389.out) | exact HB.out))) : w.heap.size ≤ gb390)); have n6_ := Aside0.mk ((by rw [hg]; exact (below_size (by repeat (first | (with_reducible first | exact HB.out | apply below_alloc | apply pw_below_drewN | apply below_drew1 | refine below_set ?_ GE389.out) | exact HB.out))) : w.heap.size ≤ gb390)); have n7_ := Aside0.mk ((by rw [hg]; exact Nat.ne_of_lt (blk_lt (g := gb389) (o := .cells #[.bool false, .slice none 0 0] 27 (0, 0)) (by (with_reducible repeat (first | refine blk_drewN ?_ _ | refine blk_drew ?_ | refine blk_alloc ?_ _)); exact BK389.out)) : gb389 ≠ gb390)); have n8_ := Aside0.mk ((by rw [hg]; exact Nat.ne_of_gt (blk_lt (g := gb389) (o := .cells #[.bool false, .slice none 0 0] 27 (0, 0)) (by (with_reducible repeat (first | refine blk_drewN ?_ _ | refine blk_drew ?_ | refine blk_alloc ?_ _)); exact BK389.out)) : gb390 ≠ gb389)); clear HOa; clear HOb; clear BK389; clear HB; have HOa := n0_; have HOb := n1_; have BK389 := n2_; have HB := n3_; have BK390 := n4_; have GW390 := n5_; have GE390 := n6_; have NB389_390 := n7_; have NB390_389 := n8_; clear n0_ n1_ n2_ n3_ n4_ n5_ n6_ n7_ n8_; clear hb hbox hg; have hnb55 := NB389_390.out; have hnc55 := NB390_389.out; have hcz56_0 : w54.cell? ⟨gb389, 0, none⟩ = some (.bool false) := (blk_cell BK389.out 0).trans rfl; have hcz56_1 : w54.cell? ⟨gb389, 1, none⟩ = some (.slice none 0 0) := (blk_cell BK389.out 1).trans rfl; have hfz56_0 := blk_frozen BK389.out 0; have hfz56_1 := blk_frozen BK389.out 1; obtain ⟨Ao57, co57, eo57⟩ := Kd.V_slice HOa.out; subst eo57; have hcz58_0 : w54.cell? ⟨gb390, 0, none⟩ = some (.bool false) := (blk_cell BK390.out 0).trans rfl; have hcz58_1 : w54.cell? ⟨gb390, 1, none⟩ = some (.slice none 0 0) := (blk_cell BK390.out 1).trans rfl; have hfz58_0 := blk_frozen BK390.out 0; have hfz58_1 := blk_frozen BK390.out 1; obtain ⟨Ao59, co59, eo59⟩ := Kd.V_slice HOb.out; subst eo59))
    have n0_ : Aside0 (Kd.V (Kd.int .u32) 44 ((((w54.setCell ⟨gb389, 0, none⟩ (.bool t381)).setCell ⟨gb389, 1, none⟩ (.slice Ao57 t382.length co57)).setCell ⟨gb390, 0, none⟩ (.bool t385)).setCell ⟨gb390, 1, none⟩ (.slice Ao59 t386.length co59)) w.heap.size (fun k_ => k_ ≠ gb389 ∧ k_ ≠ gb390) (.slice Ao57 t382.length co57) t382) := ⟨by (with_reducible repeat (first | apply Kd.V_alloc | apply Kd.V_drewN | apply Kd.V_drew)); exact Kd.V_mono (Kd.V_far (p := ⟨gb390, 1, none⟩) (Kd.V_far (p := ⟨gb390, 0, none⟩) (Kd.V_far (p := ⟨gb389, 1, none⟩) (Kd.V_far (p := ⟨gb389, 0, none⟩) (Kd.V_mono (Kd.V_mono HOa.out (fun k_ hk => (⟨hk, hk.1.2⟩ : _ ∧ k_ ≠ gb389))) (fun k_ hk => (⟨hk, hk.1.2⟩ : _ ∧ k_ ≠ gb390))) (fun _ hk => hk.1.2) (.bool t381)) (fun _ hk => hk.1.2) (.slice Ao57 t382.length co57)) (fun _ hk => hk.2) (.bool t385)) (fun _ hk => hk.2) (.slice Ao59 t386.length co59)) (fun _ hk => ⟨hk.1.1.1.2, hk.1.1.2⟩)⟩
    have n1_ : Aside0 (Kd.V (Kd.int .u32) 44 ((((w54.setCell ⟨gb389, 0, none⟩ (.bool t381)).setCell ⟨gb389, 1, none⟩ (.slice Ao57 t382.length co57)).setCell ⟨gb390, 0, none⟩ (.bool t385)).setCell ⟨gb390, 1, none⟩ (.slice Ao59 t386.length co59)) w.heap.size (fun k_ => k_ ≠ gb389 ∧ k_ ≠ gb390) (.slice Ao59 t386.length co59) t386) := ⟨by (with_reducible repeat (first | apply Kd.V_alloc | apply Kd.V_drewN | apply Kd.V_drew)); exact Kd.V_mono (Kd.V_far (p := ⟨gb390, 1, none⟩) (Kd.V_far (p := ⟨gb390, 0, none⟩) (Kd.V_far (p := ⟨gb389, 1, none⟩) (Kd.V_far (p := ⟨gb389, 0, none⟩) (Kd.V_mono (Kd.V_mono HOb.out (fun k_ hk => (⟨hk, hk.1.2⟩ : _ ∧ k_ ≠ gb389))) (fun k_ hk => (⟨hk, hk.1.2⟩ : _ ∧ k_ ≠ gb390))) (fun _ hk => hk.1.2) (.bool t381)) (fun _ hk => hk.1.2) (.slice Ao57 t382.length co57)) (fun _ hk => hk.2) (.bool t385)) (fun _ hk => hk.2) (.slice Ao59 t386.length co59)) (fun _ hk => ⟨hk.1.1.1.2, hk.1.1.2⟩)⟩
    have n2_ : Aside0 (((((w54.setCell ⟨gb389, 0, none⟩ (.bool t381)).setCell ⟨gb389, 1, none⟩ (.slice Ao57 t382.length co57)).setCell ⟨gb390, 0, none⟩ (.bool t385)).setCell ⟨gb390, 1, none⟩ (.slice Ao59 t386.length co59)).heap[gb389]? = some (.cells #[.bool t381, .slice Ao57 t382.length co57] 27 (0, 0))) := ⟨by (with_reducible repeat (first | refine blk_drewN ?_ _ | refine blk_drew ?_ | refine blk_alloc ?_ _)); refine blk_far ?_ NB389_390.out _; (with_reducible repeat (first | refine blk_drewN ?_ _ | refine blk_drew ?_ | refine blk_alloc ?_ _)); refine blk_far ?_ NB389_390.out _; (with_reducible repeat (first | refine blk_drewN ?_ _ | refine blk_drew ?_ | refine blk_alloc ?_ _)); refine blk_put (cs := #[.bool t381, .slice none 0 0]) ?_ 1 _ rfl; (with_reducible repeat (first | refine blk_drewN ?_ _ | refine blk_drew ?_ | refine blk_alloc ?_ _)); refine blk_put (cs := #[.bool false, .slice none 0 0]) ?_ 0 _ rfl; (with_reducible repeat (first | refine blk_drewN ?_ _ | refine blk_drew ?_ | refine blk_alloc ?_ _)); exact BK389.out⟩
    have n3_ : Aside0 (((((w54.setCell ⟨gb389, 0, none⟩ (.bool t381)).setCell ⟨gb389, 1, none⟩ (.slice Ao57 t382.length co57)).setCell ⟨gb390, 0, none⟩ (.bool t385)).setCell ⟨gb390, 1, none⟩ (.slice Ao59 t386.length co59)).heap[gb390]? = some (.cells #[.bool t385, .slice Ao59 t386.length co59] 27 (0, 0))) := ⟨by (with_reducible repeat (first | refine blk_drewN ?_ _ | refine blk_drew ?_ | refine blk_alloc ?_ _)); refine blk_put (cs := #[.bool t385, .slice none 0 0]) ?_ 1 _ rfl; (with_reducible repeat (first | refine blk_drewN ?_ _ | refine blk_drew ?_ | refine blk_alloc ?_ _)); refine blk_put (cs := #[.bool false, .slice none 0 0]) ?_ 0 _ rfl; (with_reducible repeat (first | refine blk_drewN ?_ _ | refine blk_drew ?_ | refine blk_alloc ?_ _)); refine blk_far ?_ NB390_389.out _; (with_reducible repeat (first | refine blk_drewN ?_ _ | refine blk_drew ?_ | refine blk_alloc ?_ _)); refine blk_far ?_ NB390_389.out _; (with_reducible repeat (first | refine blk_drewN ?_ _ | refine blk_drew ?_ | refine blk_alloc ?_ _)); exact BK390.out⟩
    have n4_ : Aside0 (Below w.heap.size w ((((w54.setCell ⟨gb389, 0, none⟩ (.bool t381)).setCell ⟨gb389, 1, none⟩ (.slice Ao57 t382.length co57)).setCell ⟨gb390, 0, none⟩ (.bool t385)).setCell ⟨gb390, 1, none⟩ (.slice Ao59 t386.length co59))) := ⟨by repeat (first | (with_reducible first | exact HB.out | apply below_alloc | apply pw_below_drewN | apply below_drew1 | refine below_set ?_ GE389.out | refine below_set ?_ GE390.out) | exact HB.out)⟩
    (try clear HOa);(try clear HOb);(try clear BK389);(try clear BK390);(try clear HB)
    generalize ((((w54.setCell ⟨gb389, 0, none⟩ (.bool t381)).setCell ⟨gb389, 1, none⟩ (.slice Ao57 t382.length co57)).setCell ⟨gb390, 0, none⟩ (.bool t385)).setCell ⟨gb390, 1, none⟩ (.slice Ao59 t386.length co59)) = w60 at n0_ n1_ n2_ n3_ n4_ ⊢
    have HOa := n0_;have HOb := n1_;have BK389 := n2_;have BK390 := n3_;have HB := n4_;clear n0_ n1_ n2_ n3_ n4_
    have n0_ := Aside0.mk (Kd.V_drew HOa.out)
    have n1_ := Aside0.mk (Kd.V_drew HOb.out)
    have n2_ := Aside0.mk (blk_drew BK389.out)
    have n3_ := Aside0.mk (blk_drew BK390.out)
    have n4_ := Aside0.mk (below_drew1 HB.out)
    clear HOa HOb BK389 BK390 HB;have HOa := n0_;have HOb := n1_;have BK389 := n2_;have BK390 := n3_;have HB := n4_;clear n0_ n1_ n2_ n3_ n4_
    refine start_ (n := 15) (S := fun w' => w'.cell? ⟨gb389, 0, none⟩ = some (.bool t381) ∧ w'.cell? ⟨gb389, 1, none⟩ = some (.slice Ao57 t382.length co57) ∧ w'.cell? ⟨gb390, 0, none⟩ = some (.bool t385) ∧ w'.cell? ⟨gb390, 1, none⟩ = some (.slice Ao59 t386.length co59)) (ds := []) #[false, false, false, false, false, false, false, false, false, false, false, false, false, false, false] (by kernel_rfl) rfl rfl ⟨(blk_cell BK389.out 0).trans rfl, (blk_cell BK389.out 1).trans rfl, (blk_cell BK390.out 0).trans rfl, (blk_cell BK390.out 1).trans rfl⟩ (fun hHeld => ?_); refine with_tabW laws_FnMulUint16.tab2 laws_FnMulUint16.bits2 (fun HT_ HW_ => ?_)
    generalize w60.drew = w61 at HOa HOb BK389 BK390 HB hHeld ⊢
    refine pure_ (i := 0) (N := some 18) (v := ?_) (a' := ?_) #[true, false, false, false, false, false, false, false, false, false, false, false, false, false, false] rfl rfl (any_of HT_.out (by kernel_rfl)) (fun _ _ _ h => h) (Or.inl ⟨by rfl, ?_⟩) ?_ ?_
    rotate_left
    ·intro w'
     go_simp
     with_reducible rfl
    rotate_left
    ·simp only [Act.put, List.setIfInBounds_toArray, List.set_cons_zero, List.set_cons_succ, i64_w, i32_w]
     rfl
    refine pure_ (i := 1) (N := some 19) (v := ?_) (a' := ?_) #[true, true, false, false, false, false, false, false, false, false, false, false, false, false, false] rfl rfl (any_of HT_.out (by kernel_rfl)) (fun _ _ _ h => h) (Or.inl ⟨by rfl, ?_⟩) ?_ ?_
    rotate_left
    ·intro w'
     go_simp
     with_reducible rfl
    rotate_left
    ·simp only [Act.put, List.setIfInBounds_toArray, List.set_cons_zero, List.set_cons_succ, i64_w, i32_w]
     rfl
    refine pure_ (i := 3) (N := some 21) (v := ?_) (a' := ?_) #[true, true, false, true, false, false, false, false, false, false, false, false, false, false, false] rfl rfl (any_of HT_.out (by kernel_rfl)) (fun _ _ _ h => h) (Or.inl ⟨by rfl, ?_⟩) ?_ ?_
    rotate_left
    ·intro w'
     go_simp
     with_reducible rfl
    rotate_left
    ·simp only [Act.put, List.setIfInBounds_toArray, List.set_cons_zero, List.set_cons_succ, i64_w, i32_w]
     rfl
    refine pure_ (i := 4) (N := some 22) (v := ?_) (a' := ?_) #[true, true, false, true, true, false, false, false, false, false, false, false, false, false, false] rfl rfl (any_of HT_.out (by kernel_rfl)) (fun _ _ _ h => h) (Or.inl ⟨by rfl, ?_⟩) ?_ ?_
    rotate_left
    ·intro w'
     go_simp
     with_reducible rfl
    rotate_left
    ·simp only [Act.put, List.setIfInBounds_toArray, List.set_cons_zero, List.set_cons_succ, i64_w, i32_w]
     rfl
    refine take_ (i := 7) (N := some 25) (v := ?_) (a' := ?_) #[true, true, false, true, true, false, false, true, false, false, false, false, false, false, false] rfl rfl (take_ofW HT_.out HW_.out (by kernel_rfl)) (fun _ _ _ h => h) (Or.inl ⟨by rfl, ?_⟩) hHeld ?_ ?_
    rotate_left
    ·rintro w' ⟨s0, s1, s2, s3⟩
     go_simp
     with_reducible rfl
    rotate_left
    ·simp only [Act.put, List.setIfInBounds_toArray, List.set_cons_zero, List.set_cons_succ, i64_w, i32_w]
     rfl
    refine take_ (i := 8) (N := some 26) (v := ?_) (a' := ?_) #[true, true, false, true, true, false, false, true, true, false, false, false, false, false, false] rfl rfl (take_ofW HT_.out HW_.out (by kernel_rfl)) (fun _ _ _ h => h) (Or.inl ⟨by rfl, ?_⟩) hHeld ?_ ?_
    rotate_left
    ·rintro w' ⟨s0, s1, s2, s3⟩
     go_simp
     with_reducible rfl
    rotate_left
    ·simp only [Act.put, List.setIfInBounds_toArray, List.set_cons_zero, List.set_cons_succ, i64_w, i32_w]
     rfl
    refine one_ (i := 2) (N := some 20) #[true, true, true, true, true, false, false, true, true, false, false, false, false, false, false] rfl rfl (one_of HT_.out (by kernel_rfl)) (by decide) (fun K hK => ?_)
    refine goes_ Try.func30 (by kernel_rfl) rfl #[.int .u64 (IntKind.u64.wrap (a0))] (by rfl) rfl rfl (by (try simp only [List.map_toArray, List.map_cons, List.map_nil]); first | done | rfl | (simp only [List.length_drop, List.length_take]; rfl)) ?_
    with_reducible refine (spec_WideUint.calls k (IntKind.u64.wrap (a0)) t391 t392 _ A4.out).mono ?_
    rintro e w62 ⟨v393, rfl, ho0, hb⟩
    refine ⟨_, rfl, ?_⟩
    have n0_ := Aside0.mk (Kd.V_below (by (with_reducible repeat (first | apply Kd.V_alloc | apply Kd.V_drewN | apply Kd.V_drew)); exact HOa.out) hb)
    have n1_ := Aside0.mk (Kd.V_below (by (with_reducible repeat (first | apply Kd.V_alloc | apply Kd.V_drewN | apply Kd.V_drew)); exact HOb.out) hb)
    have n2_ := Aside0.mk (Kd.V_lower (Kd.V_mono (ok' := fun k_ => k_ ≠ gb389 ∧ k_ ≠ gb390) ho0 (fun k_ hk_ => ⟨(Kd.freshB (g := gb389) (o := .cells #[.bool t381, .slice Ao57 t382.length co57] 27 (0, 0)) (by (with_reducible repeat (first | refine blk_drewN ?_ _ | refine blk_drew ?_ | refine blk_alloc ?_ _)); exact BK389.out) k_ hk_), (Kd.freshB (g := gb390) (o := .cells #[.bool t385, .slice Ao59 t386.length co59] 27 (0, 0)) (by (with_reducible repeat (first | refine blk_drewN ?_ _ | refine blk_drew ?_ | refine blk_alloc ?_ _)); exact BK390.out) k_ hk_)⟩)) (below_size (by repeat (first | (with_reducible first | exact HB.out | apply below_alloc | apply pw_below_drewN | apply below_drew1 | refine below_set ?_ GE389.out | refine below_set ?_ GE390.out) | exact HB.out))))
    have n3_ := Aside0.mk (blk_below (g := gb389) (o := .cells #[.bool t381, .slice Ao57 t382.length co57] 27 (0, 0)) (by (with_reducible repeat (first | refine blk_drewN ?_ _ | refine blk_drew ?_ | refine blk_alloc ?_ _)); exact BK389.out) hb)
    have n4_ := Aside0.mk (blk_below (g := gb390) (o := .cells #[.bool t385, .slice Ao59 t386.length co59] 27 (0, 0)) (by (with_reducible repeat (first | refine blk_drewN ?_ _ | refine blk_drew ?_ | refine blk_alloc ?_ _)); exact BK390.out) hb)
    have n5_ := Aside0.mk (below_step (by repeat (first | (with_reducible first | exact HB.out | apply below_alloc | apply pw_below_drewN | apply below_drew1 | refine below_set ?_ GE389.out | refine below_set ?_ GE390.out) | exact HB.out)) hb)
    clear HOa HOb BK389 BK390 HB;have HOa := n0_;have HOb := n1_;have HOc := n2_;have BK389 := n3_;have BK390 := n4_;have HB := n5_;clear n0_ n1_ n2_ n3_ n4_ n5_;(try clear hb);(try clear hb2);(try clear hk);(try clear hi);(try clear ho0)
    refine hK.out _ _ ⟨(blk_cell BK389.out 0).trans rfl, (blk_cell BK389.out 1).trans rfl, (blk_cell BK390.out 0).trans rfl, (blk_cell BK390.out 1).trans rfl⟩ (fun hHeld => ?_)
    clear hK K
    refine norm_ (a' := ?_) ?_ ?_
    rotate_left
    ·show Act.put _ (some 20) _ = _
     simp only [Act.put, List.setIfInBounds_toArray, List.set_cons_zero, List.set_cons_succ, i64_w, i32_w]
     rfl
    refine one_ (i := 5) (N := some 23) #[true, true, true, true, true, true, false, true, true, false, false, false, false, false, false] rfl rfl (one_of HT_.out (by kernel_rfl)) (by decide) (fun K hK => ?_)
    refine goes_ Try.func30 (by kernel_rfl) rfl #[.int .u64 (IntKind.u64.wrap (a1))] (by rfl) rfl rfl (by (try simp only [List.map_toArray, List.map_cons, List.map_nil]); first | done | rfl | (simp only [List.length_drop, List.length_take]; rfl)) ?_
    with_reducible refine (spec_WideUint.calls k (IntKind.u64.wrap (a1)) t395 t396 _ A5.out).mono ?_
    rintro e w63 ⟨v397, rfl, ho0, hb⟩
    refine ⟨_, rfl, ?_⟩
    have n0_ := Aside0.mk (Kd.V_below (by (with_reducible repeat (first | apply Kd.V_alloc | apply Kd.V_drewN | apply Kd.V_drew)); exact HOa.out) hb)
    have n1_ := Aside0.mk (Kd.V_below (by (with_reducible repeat (first | apply Kd.V_alloc | apply Kd.V_drewN | apply Kd.V_drew)); exact HOb.out) hb)
    have n2_ := Aside0.mk (Kd.V_below (by (with_reducible repeat (first | apply Kd.V_alloc | apply Kd.V_drewN | apply Kd.V_drew)); exact HOc.out) hb)
    have n3_ := Aside0.mk (Kd.V_lower (Kd.V_mono (ok' := fun k_ => k_ ≠ gb389 ∧ k_ ≠ gb390) ho0 (fun k_ hk_ => ⟨(Kd.freshB (g := gb389) (o := .cells #[.bool t381, .slice Ao57 t382.length co57] 27 (0, 0)) (by (with_reducible repeat (first | refine blk_drewN ?_ _ | refine blk_drew ?_ | refine blk_alloc ?_ _)); exact BK389.out) k_ hk_), (Kd.freshB (g := gb390) (o := .cells #[.bool t385, .slice Ao59 t386.length co59] 27 (0, 0)) (by (with_reducible repeat (first | refine blk_drewN ?_ _ | refine blk_drew ?_ | refine blk_alloc ?_ _)); exact BK390.out) k_ hk_)⟩)) (below_size (by repeat (first | (with_reducible first | exact HB.out | apply below_alloc | apply pw_below_drewN | apply below_drew1 | refine below_set ?_ GE389.out | refine below_set ?_ GE390.out) | exact HB.out))))
    have n4_ := Aside0.mk (blk_below (g := gb389) (o := .cells #[.bool t381, .slice Ao57 t382.length co57] 27 (0, 0)) (by (with_reducible repeat (first | refine blk_drewN ?_ _ | refine blk_drew ?_ | refine blk_alloc ?_ _)); exact BK389.out) hb)
    have n5_ := Aside0.mk (blk_below (g := gb390) (o := .cells #[.bool t385, .slice Ao59 t386.length co59] 27 (0, 0)) (by (with_reducible repeat (first | refine blk_drewN ?_ _ | refine blk_drew ?_ | refine blk_alloc ?_ _)); exact BK390.out) hb)
    have n6_ := Aside0.mk (below_step (by repeat (first | (with_reducible first | exact HB.out | apply below_alloc | apply pw_below_drewN | apply below_drew1 | refine below_set ?_ GE389.out | refine below_set ?_ GE390.out) | exact HB.out)) hb)
    clear HOa HOb HOc BK389 BK390 HB;have HOa := n0_;have HOb := n1_;have HOc := n2_;have HOd := n3_;have BK389 := n4_;have BK390 := n5_;have HB := n6_;clear n0_ n1_ n2_ n3_ n4_ n5_ n6_;(try clear hb);(try clear hb2);(try clear hk);(try clear hi);(try clear ho0)
    obtain ⟨Ao64, co64, eo64⟩ := Kd.V_slice HOc.out
    (first | subst eo64 | (injection eo64 with f1_ f2_ f3_; have f4_ := f1_.symm; have f5_ := f3_.symm; clear f1_ f2_ f3_; subst f4_; subst f5_))
    obtain ⟨Ao65, co65, eo65⟩ := Kd.V_slice HOd.out
    (first | subst eo65 | (injection eo65 with f1_ f2_ f3_; have f4_ := f1_.symm; have f5_ := f3_.symm; clear f1_ f2_ f3_; subst f4_; subst f5_))
    refine hK.out _ _ ⟨(blk_cell BK389.out 0).trans rfl, (blk_cell BK389.out 1).trans rfl, (blk_cell BK390.out 0).trans rfl, (blk_cell BK390.out 1).trans rfl⟩ (fun hHeld => ?_)
    clear hK K
    refine norm_ (a' := ?_) ?_ ?_
    rotate_left
    ·show Act.put _ (some 23) _ = _
     simp only [Act.put, List.setIfInBounds_toArray, List.set_cons_zero, List.set_cons_succ, i64_w, i32_w]
     rfl
    refine one_ (i := 6) (N := some 24) #[true, true, true, true, true, true, true, true, true, false, false, false, false, false, false] rfl rfl (one_of HT_.out (by kernel_rfl)) (by decide) (fun K hK => ?_)
    refine goes_ Try.func29 (by kernel_rfl) rfl #[.agg #[.bool t391, .slice Ao64 t392.length co64], .agg #[.bool t395, .slice Ao65 t396.length co65]] (by rfl) rfl rfl (by (try simp only [List.map_toArray, List.map_cons, List.map_nil]); first | done | rfl | (simp only [List.length_drop, List.length_take]; rfl)) ?_
    with_reducible refine (spec_WideMul.calls k t391 _ _ t392 t395 _ _ t396 t399 t400 _ ?side1 ?side2 ?side3 ?side4 A6.out).mono ?_
    (case side1 => repeat (first | exact (Kd.V_reads' HOc.out).2.2 | (with_reducible refine Kd.C_alloc ?_ _) | (with_reducible refine Kd.C_drewN ?_ _) | (with_reducible refine Kd.C_drew ?_)))
    (case side2 => exact (Kd.V_reads' HOc.out).2.1)
    (case side3 => repeat (first | exact (Kd.V_reads' HOd.out).2.2 | (with_reducible refine Kd.C_alloc ?_ _) | (with_reducible refine Kd.C_drewN ?_ _) | (with_reducible refine Kd.C_drew ?_)))
    (case side4 => exact (Kd.V_reads' HOd.out).2.1)
    rintro e w66 ⟨v401, rfl, ho0, hb⟩
    refine ⟨_, rfl, ?_⟩
    have n0_ := Aside0.mk (Kd.V_below (by (with_reducible repeat (first | apply Kd.V_alloc | apply Kd.V_drewN | apply Kd.V_drew)); exact HOa.out) hb)
    have n1_ := Aside0.mk (Kd.V_below (by (with_reducible repeat (first | apply Kd.V_alloc | apply Kd.V_drewN | apply Kd.V_drew)); exact HOb.out) hb)
    have n2_ := Aside0.mk (Kd.V_below (by (with_reducible repeat (first | apply Kd.V_alloc | apply Kd.V_drewN | apply Kd.V_drew)); exact HOc.out) hb)
    have n3_ := Aside0.mk (Kd.V_below (by (with_reducible repeat (first | apply Kd.V_alloc | apply Kd.V_drewN | apply Kd.V_drew)); exact HOd.out) hb)
    have n4_ := Aside0.mk (Kd.V_lower (Kd.V_mono (ok' := fun k_ => k_ ≠ gb389 ∧ k_ ≠ gb390) ho0 (fun k_ hk_ => ⟨(Kd.freshB (g := gb389) (o := .cells #[.bool t381, .slice Ao57 t382.length co57] 27 (0, 0)) (by (with_reducible repeat (first | refine blk_drewN ?_ _ | refine blk_drew ?_ | refine blk_alloc ?_ _)); exact BK389.out) k_ hk_), (Kd.freshB (g := gb390) (o := .cells #[.bool t385, .slice Ao59 t386.length co59] 27 (0, 0)) (by (with_reducible repeat (first | refine blk_drewN ?_ _ | refine blk_drew ?_ | refine blk_alloc ?_ _)); exact BK390.out) k_ hk_)⟩)) (below_size (by repeat (first | (with_reducible first | exact HB.out | apply below_alloc | apply pw_below_drewN | apply below_drew1 | refine below_set ?_ GE389.out | refine below_set ?_ GE390.out) | exact HB.out))))
    have n5_ := Aside0.mk (blk_below (g := gb389) (o := .cells #[.bool t381, .slice Ao57 t382.length co57] 27 (0, 0)) (by (with_reducible repeat (first | refine blk_drewN ?_ _ | refine blk_drew ?_ | refine blk_alloc ?_ _)); exact BK389.out) hb)
    have n6_ := Aside0.mk (blk_below (g := gb390) (o := .cells #[.bool t385, .slice Ao59 t386.length co59] 27 (0, 0)) (by (with_reducible repeat (first | refine blk_drewN ?_ _ | refine blk_drew ?_ | refine blk_alloc ?_ _)); exact BK390.out) hb)
    have n7_ := Aside0.mk (below_step (by repeat (first | (with_reducible first | exact HB.out | apply below_alloc | apply pw_below_drewN | apply below_drew1 | refine below_set ?_ GE389.out | refine below_set ?_ GE390.out) | exact HB.out)) hb)
    clear HOa HOb HOc HOd BK389 BK390 HB;have HOa := n0_;have HOb := n1_;have HOc := n2_;have HOd := n3_;have HO402 := n4_;have BK389 := n5_;have BK390 := n6_;have HB := n7_;clear n0_ n1_ n2_ n3_ n4_ n5_ n6_ n7_;(try clear hb);(try clear hb2);(try clear hk);(try clear hi);(try clear ho0)
    obtain ⟨Ao67, co67, eo67⟩ := Kd.V_slice HO402.out
    (first | subst eo67 | (injection eo67 with f1_ f2_ f3_; have f4_ := f1_.symm; have f5_ := f3_.symm; clear f1_ f2_ f3_; subst f4_; subst f5_))
    refine hK.out _ _ ⟨(blk_cell BK389.out 0).trans rfl, (blk_cell BK389.out 1).trans rfl, (blk_cell BK390.out 0).trans rfl, (blk_cell BK390.out 1).trans rfl⟩ (fun hHeld => ?_)
    clear hK K
    refine norm_ (a' := ?_) ?_ ?_
    rotate_left
    ·show Act.put _ (some 24) _ = _
     simp only [Act.put, List.setIfInBounds_toArray, List.set_cons_zero, List.set_cons_succ, i64_w, i32_w]
     rfl
    refine one_ (i := 9) (N := some 27) #[true, true, true, true, true, true, true, true, true, true, false, false, false, false, false] rfl rfl (one_of HT_.out (by kernel_rfl)) (by decide) (fun K hK => ?_)
    refine goes_ Try.func26 (by kernel_rfl) rfl #[.agg #[.bool t399, .slice Ao67 t400.length co67], .agg #[.bool t381, .slice Ao57 t382.length co57], .agg #[.bool t385, .slice Ao59 t386.length co59]] (by rfl) rfl rfl (by (try simp only [List.map_toArray, List.map_cons, List.map_nil]); first | done | rfl | (simp only [List.length_drop, List.length_take]; rfl)) ?_
    with_reducible refine (laws_fitted.calls k t399 _ _ t400 t381 _ _ t382 t385 _ _ t386 t403 true _ ?side1 ?side2 ?side3 ?side4 ?side5 ?side6 A7.out).mono ?_
    (case side1 => repeat (first | exact (Kd.V_reads' HO402.out).2.2 | (with_reducible refine Kd.C_alloc ?_ _) | (with_reducible refine Kd.C_drewN ?_ _) | (with_reducible refine Kd.C_drew ?_)))
    (case side2 => exact (Kd.V_reads' HO402.out).2.1)
    (case side3 => repeat (first | exact (Kd.V_reads' HOa.out).2.2 | (with_reducible refine Kd.C_alloc ?_ _) | (with_reducible refine Kd.C_drewN ?_ _) | (with_reducible refine Kd.C_drew ?_)))
    (case side4 => exact (Kd.V_reads' HOa.out).2.1)
    (case side5 => repeat (first | exact (Kd.V_reads' HOb.out).2.2 | (with_reducible refine Kd.C_alloc ?_ _) | (with_reducible refine Kd.C_drewN ?_ _) | (with_reducible refine Kd.C_drew ?_)))
    (case side6 => exact (Kd.V_reads' HOb.out).2.1)
    rintro e w68 ⟨rfl, hb⟩
    refine ⟨_, rfl, ?_⟩
    have n0_ := Aside0.mk (Kd.V_below (by (with_reducible repeat (first | apply Kd.V_alloc | apply Kd.V_drewN | apply Kd.V_drew)); exact HOa.out) hb)
    have n1_ := Aside0.mk (Kd.V_below (by (with_reducible repeat (first | apply Kd.V_alloc | apply Kd.V_drewN | apply Kd.V_drew)); exact HOb.out) hb)
    have n2_ := Aside0.mk (Kd.V_below (by (with_reducible repeat (first | apply Kd.V_alloc | apply Kd.V_drewN | apply Kd.V_drew)); exact HOc.out) hb)
    have n3_ := Aside0.mk (Kd.V_below (by (with_reducible repeat (first | apply Kd.V_alloc | apply Kd.V_drewN | apply Kd.V_drew)); exact HOd.out) hb)
    have n4_ := Aside0.mk (Kd.V_below (by (with_reducible repeat (first | apply Kd.V_alloc | apply Kd.V_drewN | apply Kd.V_drew)); exact HO402.out) hb)
    have n5_ := Aside0.mk (blk_below (g := gb389) (o := .cells #[.bool t381, .slice Ao57 t382.length co57] 27 (0, 0)) (by (with_reducible repeat (first | refine blk_drewN ?_ _ | refine blk_drew ?_ | refine blk_alloc ?_ _)); exact BK389.out) hb)
    have n6_ := Aside0.mk (blk_below (g := gb390) (o := .cells #[.bool t385, .slice Ao59 t386.length co59] 27 (0, 0)) (by (with_reducible repeat (first | refine blk_drewN ?_ _ | refine blk_drew ?_ | refine blk_alloc ?_ _)); exact BK390.out) hb)
    have n7_ := Aside0.mk (below_step (by repeat (first | (with_reducible first | exact HB.out | apply below_alloc | apply pw_below_drewN | apply below_drew1 | refine below_set ?_ GE389.out | refine below_set ?_ GE390.out) | exact HB.out)) hb)
    clear HOa HOb HOc HOd HO402 BK389 BK390 HB;have HOa := n0_;have HOb := n1_;have HOc := n2_;have HOd := n3_;have HO402 := n4_;have BK389 := n5_;have BK390 := n6_;have HB := n7_;clear n0_ n1_ n2_ n3_ n4_ n5_ n6_ n7_;(try clear hb);(try clear hb2);(try clear hk);(try clear hi)
    refine hK.out _ _ ⟨(blk_cell BK389.out 0).trans rfl, (blk_cell BK389.out 1).trans rfl, (blk_cell BK390.out 0).trans rfl, (blk_cell BK390.out 1).trans rfl⟩ (fun hHeld => ?_)
    clear hK K
    refine norm_ (a' := ?_) ?_ ?_
    rotate_left
    ·show Act.put _ (some 27) _ = _
     simp only [Act.put, List.setIfInBounds_toArray, List.set_cons_zero, List.set_cons_succ, i64_w, i32_w]
     rfl
    refine pure_ (i := 10) (N := some 17) (v := ?_) (a' := ?_) #[true, true, true, true, true, true, true, true, true, true, true, false, false, false, false] rfl rfl (any_of HT_.out (by kernel_rfl)) (fun _ _ _ h => h) (Or.inl ⟨by rfl, ?_⟩) ?_ ?_
    rotate_left
    ·intro w'
     go_simp
     with_reducible rfl
    rotate_left
    ·simp only [Act.put, List.setIfInBounds_toArray, List.set_cons_zero, List.set_cons_succ, i64_w, i32_w]
     rfl
    refine pure_ (i := 11) (N := some 28) (v := ?_) (a' := ?_) #[true, true, true, true, true, true, true, true, true, true, true, true, false, false, false] rfl rfl (any_of HT_.out (by kernel_rfl)) (fun _ _ _ h => h) (Or.inl ⟨by rfl, ?_⟩) ?_ ?_
    rotate_left
    ·intro w'
     go_simp
     with_reducible rfl
    rotate_left
    ·simp only [Act.put, List.setIfInBounds_toArray, List.set_cons_zero, List.set_cons_succ, i64_w, i32_w]
     rfl
    refine pure_ (i := 12) (N := some 29) (v := ?_) (a' := ?_) #[true, true, true, true, true, true, true, true, true, true, true, true, true, false, false] rfl rfl (any_of HT_.out (by kernel_rfl)) (fun _ _ _ h => h) (Or.inl ⟨by rfl, ?_⟩) ?_ ?_
    rotate_left
    ·intro w'
     go_simp
     with_reducible rfl
    rotate_left
    ·simp only [Act.put, List.setIfInBounds_toArray, List.set_cons_zero, List.set_cons_succ, i64_w, i32_w]
     rfl
    refine pure_ (i := 13) (N := some 7) (v := ?_) (a' := ?_) #[true, true, true, true, true, true, true, true, true, true, true, true, true, true, false] rfl rfl (any_of HT_.out (by kernel_rfl)) (fun _ _ _ h => h) (Or.inl ⟨by rfl, ?_⟩) ?_ ?_
    rotate_left
    ·intro w'
     go_simp
     with_reducible rfl
    rotate_left
    ·simp only [Act.put, List.setIfInBounds_toArray, List.set_cons_zero, List.set_cons_succ, i64_w, i32_w]
     rfl
    refine pure_ (i := 14) (N := some 8) (v := ?_) (a' := ?_) #[true, true, true, true, true, true, true, true, true, true, true, true, true, true, true] rfl rfl (any_of HT_.out (by kernel_rfl)) (fun _ _ _ h => h) (Or.inl ⟨by rfl, ?_⟩) ?_ ?_
    rotate_left
    ·intro w'
     go_simp
     with_reducible rfl
    rotate_left
    ·simp only [Act.put, List.setIfInBounds_toArray, List.set_cons_zero, List.set_cons_succ, i64_w, i32_w]
     rfl
    refine done_ (done_of HT_.out (by kernel_rfl)) ?_
    try go_wp2_with (first | ((with_reducible refine gate_callee (f := 31) rfl ?_); refine goesL_ (some 33) rfl rfl Try.func31 (by kernel_rfl) rfl #[.int .u16 a0, .int .u16 a1] rfl (by (try simp only [List.map_toArray, List.map_cons, List.map_nil]); first | done | rfl | (simp only [List.length_drop, List.length_take]; rfl)) ?_; (with_reducible refine (impl_MulUint16.calls a0 a1 t405 t406 _ A8.out).mono ?_); rintro e w69 ⟨rfl, hb⟩; refine ⟨_, rfl, ?_⟩; have n0_ := Aside0.mk (Kd.V_below (by (with_reducible repeat (first | apply Kd.V_alloc | apply Kd.V_drewN | apply Kd.V_drew)); exact HOa.out) hb); have n1_ := Aside0.mk (Kd.V_below (by (with_reducible repeat (first | apply Kd.V_alloc | apply Kd.V_drewN | apply Kd.V_drew)); exact HOb.out) hb); have n2_ := Aside0.mk (Kd.V_below (by (with_reducible repeat (first | apply Kd.V_alloc | apply Kd.V_drewN | apply Kd.V_drew)); exact HOc.out) hb); have n3_ := Aside0.mk (Kd.V_below (by (with_reducible repeat (first | apply Kd.V_alloc | apply Kd.V_drewN | apply Kd.V_drew)); exact HOd.out) hb); have n4_ := Aside0.mk (Kd.V_below (by (with_reducible repeat (first | apply Kd.V_alloc | apply Kd.V_drewN | apply Kd.V_drew)); exact HO402.out) hb); have n5_ := Aside0.mk (blk_below (g := gb389) (o := .cells #[.bool t381, .slice Ao57 t382.length co57] 27 (0, 0)) (by (with_reducible repeat (first | refine blk_drewN ?_ _ | refine blk_drew ?_ | refine blk_alloc ?_ _)); exact BK389.out) hb); have n6_ := Aside0.mk (blk_below (g := gb390) (o := .cells #[.bool t385, .slice Ao59 t386.length co59] 27 (0, 0)) (by (with_reducible repeat (first | refine blk_drewN ?_ _ | refine blk_drew ?_ | refine blk_alloc ?_ _)); exact BK390.out) hb); have n7_ := Aside0.mk (below_step (by repeat (first | (with_reducible first | exact HB.out | apply below_alloc | apply pw_below_drewN | apply below_drew1 | refine below_set ?_ GE389.out | refine below_set ?_ GE390.out) | exact HB.out)) hb); clear HOa; clear HOb; clear HOc; clear HOd; clear HO402; clear BK389; clear BK390; clear HB; have HOa := n0_; have HOb := n1_; have HOc := n2_; have HOd := n3_; have HO402 := n4_; have BK389 := n5_; have BK390 := n6_; have HB := n7_; clear n0_ n1_ n2_ n3_ n4_ n5_ n6_ n7_; (try clear hb); (try clear hb2); (try clear hk); (try clear hi)) | ((with_reducible refine gate_callee (f := 31) rfl ?_); refine goesL_ (some 37) rfl rfl Try.func31 (by kernel_rfl) rfl #[.int .u16 2, .int .u16 3] rfl (by (try simp only [List.map_toArray, List.map_cons, List.map_nil]); first | done | rfl | (simp only [List.length_drop, List.length_take]; rfl)) ?_; (with_reducible refine (impl_MulUint16.calls 2 3 t407 t408 _ A9.out).mono ?_); rintro e w70 ⟨rfl, hb⟩; refine ⟨_, rfl, ?_⟩; have n0_ := Aside0.mk (Kd.V_below (by (with_reducible repeat (first | apply Kd.V_alloc | apply Kd.V_drewN | apply Kd.V_drew)); exact HOa.out) hb); have n1_ := Aside0.mk (Kd.V_below (by (with_reducible repeat (first | apply Kd.V_alloc | apply Kd.V_drewN | apply Kd.V_drew)); exact HOb.out) hb); have n2_ := Aside0.mk (Kd.V_below (by (with_reducible repeat (first | apply Kd.V_alloc | apply Kd.V_drewN | apply Kd.V_drew)); exact HOc.out) hb); have n3_ := Aside0.mk (Kd.V_below (by (with_reducible repeat (first | apply Kd.V_alloc | apply Kd.V_drewN | apply Kd.V_drew)); exact HOd.out) hb); have n4_ := Aside0.mk (Kd.V_below (by (with_reducible repeat (first | apply Kd.V_alloc | apply Kd.V_drewN | apply Kd.V_drew)); exact HO402.out) hb); have n5_ := Aside0.mk (blk_below (g := gb389) (o := .cells #[.bool t381, .slice Ao57 t382.length co57] 27 (0, 0)) (by (with_reducible repeat (first | refine blk_drewN ?_ _ | refine blk_drew ?_ | refine blk_alloc ?_ _)); exact BK389.out) hb); have n6_ := Aside0.mk (blk_below (g := gb390) (o := .cells #[.bool t385, .slice Ao59 t386.length co59] 27 (0, 0)) (by (with_reducible repeat (first | refine blk_drewN ?_ _ | refine blk_drew ?_ | refine blk_alloc ?_ _)); exact BK390.out) hb); have n7_ := Aside0.mk (below_step (by repeat (first | (with_reducible first | exact HB.out | apply below_alloc | apply pw_below_drewN | apply below_drew1 | refine below_set ?_ GE389.out | refine below_set ?_ GE390.out) | exact HB.out)) hb); clear HOa; clear HOb; clear HOc; clear HOd; clear HO402; clear BK389; clear BK390; clear HB; have HOa := n0_; have HOb := n1_; have HOc := n2_; have HOd := n3_; have HO402 := n4_; have BK389 := n5_; have BK390 := n6_; have HB := n7_; clear n0_ n1_ n2_ n3_ n4_ n5_ n6_ n7_; (try clear hb); (try clear hb2); (try clear hk); (try clear hi)))
    go_ret
    exact ⟨by first | rfl | (simp [errW_none, errW_some] <;> rfl) | (simp [*, errW_none, errW_some] <;> rfl), by repeat (first | (with_reducible first | exact HB.out | apply below_alloc | apply pw_below_drewN | apply below_drew1 | refine below_set ?_ GE389.out | refine below_set ?_ GE390.out) | exact HB.out)⟩
  ·replace c11 := Bool.eq_false_iff.mpr c11
   subst c11
   have H1 : (if t408 = true then (some (t407 == 6)) else (some false)) = some r := by rw [if_neg (show ¬ (false = true) by decide)] at H; exact H
   clear H;have H := H1;clear H1
   by_cases c71 : t408 = true
   ·subst c71
    have H1 : (some (t407 == 6)) = some r := by rw [if_pos rfl] at H; exact H
    clear H;have H := H1;clear H1
    obtain rfl := Option.some.inj H
    go_enter Try.func12, Try.ntmps12
    try go_wp2_with (first | ((with_reducible refine gate_callee (f := 25) rfl ?_); refine goesL_ (some 14) rfl rfl Try.func25 (by kernel_rfl) rfl #[.int .i64 16, .bool false] rfl (by (try simp only [List.map_toArray, List.map_cons, List.map_nil]); first | done | rfl | (simp only [List.length_drop, List.length_take]; rfl)) ?_; (with_reducible refine (laws_bounds.calls k 16 false t381 t382 t385 t386 _ A3.out).mono ?_); rintro e w72 ⟨v383, v387, rfl, ho0, ho1, hb⟩; refine ⟨_, rfl, ?_⟩; have n0_ := Aside0.mk (Kd.V_lower (Kd.V_mono (ok' := fun k_ => True) ho0 (fun k_ hk_ => trivial)) (below_size (by repeat (first | (with_reducible first | exact HB.out | apply below_alloc | apply pw_below_drewN | apply below_drew1) | exact HB.out)))); have n1_ := Aside0.mk (Kd.V_lower (Kd.V_mono (ok' := fun k_ => True) ho1 (fun k_ hk_ => trivial)) (below_size (by repeat (first | (with_reducible first | exact HB.out | apply below_alloc | apply pw_below_drewN | apply below_drew1) | exact HB.out)))); have n2_ := Aside0.mk (below_step (by repeat (first | (with_reducible first | exact HB.out | apply below_alloc | apply pw_below_drewN | apply below_drew1) | exact HB.out)) hb); clear HB; have HOa := n0_; have HOb := n1_; have HB := n2_; clear n0_ n1_ n2_; (try clear hb); (try clear hb2); (try clear hk); (try clear hi); (try clear ho0); (try clear ho1)) | ((with_reducible refine gate_dst (N := 5) rfl ?_); refine box_event ?hg (N := 5) ?hd (cs := #[.bool false, .slice none 0 0]) (t := 27) ?hr ?_; (case hd => rfl); (case hg => rfl); (case hr => first | (go_simp; done) | (go_simp; rfl)); intro gb389 hg w73 hbox hb; have n0_ := Aside0.mk (Kd.V_below (Kd.V_elderB (by (with_reducible repeat (first | apply Kd.V_alloc | apply Kd.V_drewN | apply Kd.V_drew)); exact HOa.out) gb389 (Nat.le_of_eq hg.symm)) hb); have n1_ := Aside0.mk (Kd.V_below (Kd.V_elderB (by (with_reducible repeat (first | apply Kd.V_alloc | apply Kd.V_drewN | apply Kd.V_drew)); exact HOb.out) gb389 (Nat.le_of_eq hg.symm)) hb); have n2_ := Aside0.mk (below_step (by repeat (first | (with_reducible first | exact HB.out | apply below_alloc | apply pw_below_drewN | apply below_drew1) | exact HB.out)) hb); have n3_ := Aside0.mk (hbox); have n4_ := Aside0.mk ((by rw [hg]; exact (below_size (by repeat (first | (with_reducible first | exact HB.out | apply below_alloc | apply pw_below_drewN | apply below_drew1) | exact HB.out))) : w.heap.size ≤ gb389)); have n5_ := Aside0.mk ((by rw [hg]; exact (below_size (by repeat (first | (with_reducible first | exact HB.out | apply below_alloc | apply pw_below_drewN | apply below_drew1) | exact HB.out))) : w.heap.size ≤ gb389)); clear HOa; clear HOb; clear HB; have HOa := n0_; have HOb := n1_; have HB := n2_; have BK389 := n3_; have GW389 := n4_; have GE389 := n5_; clear n0_ n1_ n2_ n3_ n4_ n5_; clear hb hbox hg) | ((with_reducible refine gate_dst (N := 6) rfl ?_); refine box_event ?hg (N := 6) ?hd (cs := #[.bool false, .slice none 0 0]) (t := 27) ?hr ?_; (case hd => rfl); (case hg => rfl); (case hr => first | (go_simp; done) | (go_simp; rfl)); intro gb390 hg w74 hbox hb; have n0_ := Aside0.mk (Kd.V_below (Kd.V_elderB (by (with_reducible repeat (first | apply Kd.V_alloc | apply Kd.V_drewN | apply Kd.V_drew)); exact HOa.out) gb390 (Nat.le_of_eq hg.symm)) hb); have n1_ := Aside0.mk (Kd.V_below (Kd.V_elderB (by (with_reducible repeat (first | apply Kd.V_alloc | apply Kd.V_drewN | apply Kd.V_drew)); exact HOb.out) gb390 (Nat.le_of_eq hg.symm)) hb); have n2_ := Aside0.mk (blk_below (g := gb389) (o := .cells #[.bool false, .slice none 0 0] 27 (0, 0)) (by (with_reducible repeat (first | refine blk_drewN ?_ _ | refine blk_drew ?_ | refine blk_alloc ?_ _)); exact BK389.out) hb); have n3_ := Aside0.mk (below_step (by repeat (first | (with_reducible first | exact HB.out | apply below_alloc | apply pw_below_drewN | apply below_drew1 | refine below_set ?_ GE389.out) | exact HB.out)) hb); have n4_ := Aside0.mk (hbox); have n5_ := Aside0.mk ((by rw [hg]; exact (below_size (by repeat (first | (with_reducible first | exact HB.out | apply below_alloc | apply pw_below_drewN | apply below_drew1 | refine below_set ?_ GE389.out) | exact HB.out))) : w.heap.size ≤ gb390)); have n6_ := Aside0.mk ((by rw [hg]; exact (below_size (by repeat (first | (with_reducible first | exact HB.out | apply below_alloc | apply pw_below_drewN | apply below_drew1 | refine below_set ?_ GE389.out) | exact HB.out))) : w.heap.size ≤ gb390)); have n7_ := Aside0.mk ((by rw [hg]; exact Nat.ne_of_lt (blk_lt (g := gb389) (o := .cells #[.bool false, .slice none 0 0] 27 (0, 0)) (by (with_reducible repeat (first | refine blk_drewN ?_ _ | refine blk_drew ?_ | refine blk_alloc ?_ _)); exact BK389.out)) : gb389 ≠ gb390)); have n8_ := Aside0.mk ((by rw [hg]; exact Nat.ne_of_gt (blk_lt (g := gb389) (o := .cells #[.bool false, .slice none 0 0] 27 (0, 0)) (by (with_reducible repeat (first | refine blk_drewN ?_ _ | refine blk_drew ?_ | refine blk_alloc ?_ _)); exact BK389.out)) : gb390 ≠ gb389)); clear HOa; clear HOb; clear BK389; clear HB; have HOa := n0_; have HOb := n1_; have BK389 := n2_; have HB := n3_; have BK390 := n4_; have GW390 := n5_; have GE390 := n6_; have NB389_390 := n7_; have NB390_389 := n8_; clear n0_ n1_ n2_ n3_ n4_ n5_ n6_ n7_ n8_; clear hb hbox hg; have hnb75 := NB389_390.out; have hnc75 := NB390_389.out; have hcz76_0 : w74.cell? ⟨gb389, 0, none⟩ = some (.bool false) := (blk_cell BK389.out 0).trans rfl; have hcz76_1 : w74.cell? ⟨gb389, 1, none⟩ = some (.slice none 0 0) := (blk_cell BK389.out 1).trans rfl; have hfz76_0 := blk_frozen BK389.out 0; have hfz76_1 := blk_frozen BK389.out 1; obtain ⟨Ao77, co77, eo77⟩ := Kd.V_slice HOa.out; subst eo77; have hcz78_0 : w74.cell? ⟨gb390, 0, none⟩ = some (.bool false) := (blk_cell BK390.out 0).trans rfl; have hcz78_1 : w74.cell? ⟨gb390, 1, none⟩ = some (.slice none 0 0) := (blk_cell BK390.out 1).trans rfl; have hfz78_0 := blk_frozen BK390.out 0; have hfz78_1 := blk_frozen BK390.out 1; obtain ⟨Ao79, co79, eo79⟩ := Kd.V_slice HOb.out; subst eo79))
    have n0_ : Aside0 (Kd.V (Kd.int .u32) 44 ((((w74.setCell ⟨gb389, 0, none⟩ (.bool t381)).setCell ⟨gb389, 1, none⟩ (.slice Ao77 t382.length co77)).setCell ⟨gb390, 0, none⟩ (.bool t385)).setCell ⟨gb390, 1, none⟩ (.slice Ao79 t386.length co79)) w.heap.size (fun k_ => k_ ≠ gb389 ∧ k_ ≠ gb390) (.slice Ao77 t382.length co77) t382) := ⟨by (with_reducible repeat (first | apply Kd.V_alloc | apply Kd.V_drewN | apply Kd.V_drew)); exact Kd.V_mono (Kd.V_far (p := ⟨gb390, 1, none⟩) (Kd.V_far (p := ⟨gb390, 0, none⟩) (Kd.V_far (p := ⟨gb389, 1, none⟩) (Kd.V_far (p := ⟨gb389, 0, none⟩) (Kd.V_mono (Kd.V_mono HOa.out (fun k_ hk => (⟨hk, hk.1.2⟩ : _ ∧ k_ ≠ gb389))) (fun k_ hk => (⟨hk, hk.1.2⟩ : _ ∧ k_ ≠ gb390))) (fun _ hk => hk.1.2) (.bool t381)) (fun _ hk => hk.1.2) (.slice Ao77 t382.length co77)) (fun _ hk => hk.2) (.bool t385)) (fun _ hk => hk.2) (.slice Ao79 t386.length co79)) (fun _ hk => ⟨hk.1.1.1.2, hk.1.1.2⟩)⟩
    have n1_ : Aside0 (Kd.V (Kd.int .u32) 44 ((((w74.setCell ⟨gb389, 0, none⟩ (.bool t381)).setCell ⟨gb389, 1, none⟩ (.slice Ao77 t382.length co77)).setCell ⟨gb390, 0, none⟩ (.bool t385)).setCell ⟨gb390, 1, none⟩ (.slice Ao79 t386.length co79)) w.heap.size (fun k_ => k_ ≠ gb389 ∧ k_ ≠ gb390) (.slice Ao79 t386.length co79) t386) := ⟨by (with_reducible repeat (first | apply Kd.V_alloc | apply Kd.V_drewN | apply Kd.V_drew)); exact Kd.V_mono (Kd.V_far (p := ⟨gb390, 1, none⟩) (Kd.V_far (p := ⟨gb390, 0, none⟩) (Kd.V_far (p := ⟨gb389, 1, none⟩) (Kd.V_far (p := ⟨gb389, 0, none⟩) (Kd.V_mono (Kd.V_mono HOb.out (fun k_ hk => (⟨hk, hk.1.2⟩ : _ ∧ k_ ≠ gb389))) (fun k_ hk => (⟨hk, hk.1.2⟩ : _ ∧ k_ ≠ gb390))) (fun _ hk => hk.1.2) (.bool t381)) (fun _ hk => hk.1.2) (.slice Ao77 t382.length co77)) (fun _ hk => hk.2) (.bool t385)) (fun _ hk => hk.2) (.slice Ao79 t386.length co79)) (fun _ hk => ⟨hk.1.1.1.2, hk.1.1.2⟩)⟩
    have n2_ : Aside0 (((((w74.setCell ⟨gb389, 0, none⟩ (.bool t381)).setCell ⟨gb389, 1, none⟩ (.slice Ao77 t382.length co77)).setCell ⟨gb390, 0, none⟩ (.bool t385)).setCell ⟨gb390, 1, none⟩ (.slice Ao79 t386.length co79)).heap[gb389]? = some (.cells #[.bool t381, .slice Ao77 t382.length co77] 27 (0, 0))) := ⟨by (with_reducible repeat (first | refine blk_drewN ?_ _ | refine blk_drew ?_ | refine blk_alloc ?_ _)); refine blk_far ?_ NB389_390.out _; (with_reducible repeat (first | refine blk_drewN ?_ _ | refine blk_drew ?_ | refine blk_alloc ?_ _)); refine blk_far ?_ NB389_390.out _; (with_reducible repeat (first | refine blk_drewN ?_ _ | refine blk_drew ?_ | refine blk_alloc ?_ _)); refine blk_put (cs := #[.bool t381, .slice none 0 0]) ?_ 1 _ rfl; (with_reducible repeat (first | refine blk_drewN ?_ _ | refine blk_drew ?_ | refine blk_alloc ?_ _)); refine blk_put (cs := #[.bool false, .slice none 0 0]) ?_ 0 _ rfl; (with_reducible repeat (first | refine blk_drewN ?_ _ | refine blk_drew ?_ | refine blk_alloc ?_ _)); exact BK389.out⟩
    have n3_ : Aside0 (((((w74.setCell ⟨gb389, 0, none⟩ (.bool t381)).setCell ⟨gb389, 1, none⟩ (.slice Ao77 t382.length co77)).setCell ⟨gb390, 0, none⟩ (.bool t385)).setCell ⟨gb390, 1, none⟩ (.slice Ao79 t386.length co79)).heap[gb390]? = some (.cells #[.bool t385, .slice Ao79 t386.length co79] 27 (0, 0))) := ⟨by (with_reducible repeat (first | refine blk_drewN ?_ _ | refine blk_drew ?_ | refine blk_alloc ?_ _)); refine blk_put (cs := #[.bool t385, .slice none 0 0]) ?_ 1 _ rfl; (with_reducible repeat (first | refine blk_drewN ?_ _ | refine blk_drew ?_ | refine blk_alloc ?_ _)); refine blk_put (cs := #[.bool false, .slice none 0 0]) ?_ 0 _ rfl; (with_reducible repeat (first | refine blk_drewN ?_ _ | refine blk_drew ?_ | refine blk_alloc ?_ _)); refine blk_far ?_ NB390_389.out _; (with_reducible repeat (first | refine blk_drewN ?_ _ | refine blk_drew ?_ | refine blk_alloc ?_ _)); refine blk_far ?_ NB390_389.out _; (with_reducible repeat (first | refine blk_drewN ?_ _ | refine blk_drew ?_ | refine blk_alloc ?_ _)); exact BK390.out⟩
    have n4_ : Aside0 (Below w.heap.size w ((((w74.setCell ⟨gb389, 0, none⟩ (.bool t381)).setCell ⟨gb389, 1, none⟩ (.slice Ao77 t382.length co77)).setCell ⟨gb390, 0, none⟩ (.bool t385)).setCell ⟨gb390, 1, none⟩ (.slice Ao79 t386.length co79))) := ⟨by repeat (first | (with_reducible first | exact HB.out | apply below_alloc | apply pw_below_drewN | apply below_drew1 | refine below_set ?_ GE389.out | refine below_set ?_ GE390.out) | exact HB.out)⟩
    (try clear HOa);(try clear HOb);(try clear BK389);(try clear BK390);(try clear HB)
    generalize ((((w74.setCell ⟨gb389, 0, none⟩ (.bool t381)).setCell ⟨gb389, 1, none⟩ (.slice Ao77 t382.length co77)).setCell ⟨gb390, 0, none⟩ (.bool t385)).setCell ⟨gb390, 1, none⟩ (.slice Ao79 t386.length co79)) = w80 at n0_ n1_ n2_ n3_ n4_ ⊢
    have HOa := n0_;have HOb := n1_;have BK389 := n2_;have BK390 := n3_;have HB := n4_;clear n0_ n1_ n2_ n3_ n4_
    have n0_ := Aside0.mk (Kd.V_drew HOa.out)
    have n1_ := Aside0.mk (Kd.V_drew HOb.out)
    have n2_ := Aside0.mk (blk_drew BK389.out)
    have n3_ := Aside0.mk (blk_drew BK390.out)
    have n4_ := Aside0.mk (below_drew1 HB.out)
    clear HOa HOb BK389 BK390 HB;have HOa := n0_;have HOb := n1_;have BK389 := n2_;have BK390 := n3_;have HB := n4_;clear n0_ n1_ n2_ n3_ n4_
    refine start_ (n := 15) (S := fun w' => w'.cell? ⟨gb389, 0, none⟩ = some (.bool t381) ∧ w'.cell? ⟨gb389, 1, none⟩ = some (.slice Ao77 t382.length co77) ∧ w'.cell? ⟨gb390, 0, none⟩ = some (.bool t385) ∧ w'.cell? ⟨gb390, 1, none⟩ = some (.slice Ao79 t386.length co79)) (ds := []) #[false, false, false, false, false, false, false, false, false, false, false, false, false, false, false] (by kernel_rfl) rfl rfl ⟨(blk_cell BK389.out 0).trans rfl, (blk_cell BK389.out 1).trans rfl, (blk_cell BK390.out 0).trans rfl, (blk_cell BK390.out 1).trans rfl⟩ (fun hHeld => ?_); refine with_tabW laws_FnMulUint16.tab2 laws_FnMulUint16.bits2 (fun HT_ HW_ => ?_)
    generalize w80.drew = w81 at HOa HOb BK389 BK390 HB hHeld ⊢
    refine pure_ (i := 0) (N := some 18) (v := ?_) (a' := ?_) #[true, false, false, false, false, false, false, false, false, false, false, false, false, false, false] rfl rfl (any_of HT_.out (by kernel_rfl)) (fun _ _ _ h => h) (Or.inl ⟨by rfl, ?_⟩) ?_ ?_
    rotate_left
    ·intro w'
     go_simp
     with_reducible rfl
    rotate_left
    ·simp only [Act.put, List.setIfInBounds_toArray, List.set_cons_zero, List.set_cons_succ, i64_w, i32_w]
     rfl
    refine pure_ (i := 1) (N := some 19) (v := ?_) (a' := ?_) #[true, true, false, false, false, false, false, false, false, false, false, false, false, false, false] rfl rfl (any_of HT_.out (by kernel_rfl)) (fun _ _ _ h => h) (Or.inl ⟨by rfl, ?_⟩) ?_ ?_
    rotate_left
    ·intro w'
     go_simp
     with_reducible rfl
    rotate_left
    ·simp only [Act.put, List.setIfInBounds_toArray, List.set_cons_zero, List.set_cons_succ, i64_w, i32_w]
     rfl
    refine pure_ (i := 3) (N := some 21) (v := ?_) (a' := ?_) #[true, true, false, true, false, false, false, false, false, false, false, false, false, false, false] rfl rfl (any_of HT_.out (by kernel_rfl)) (fun _ _ _ h => h) (Or.inl ⟨by rfl, ?_⟩) ?_ ?_
    rotate_left
    ·intro w'
     go_simp
     with_reducible rfl
    rotate_left
    ·simp only [Act.put, List.setIfInBounds_toArray, List.set_cons_zero, List.set_cons_succ, i64_w, i32_w]
     rfl
    refine pure_ (i := 4) (N := some 22) (v := ?_) (a' := ?_) #[true, true, false, true, true, false, false, false, false, false, false, false, false, false, false] rfl rfl (any_of HT_.out (by kernel_rfl)) (fun _ _ _ h => h) (Or.inl ⟨by rfl, ?_⟩) ?_ ?_
    rotate_left
    ·intro w'
     go_simp
     with_reducible rfl
    rotate_left
    ·simp only [Act.put, List.setIfInBounds_toArray, List.set_cons_zero, List.set_cons_succ, i64_w, i32_w]
     rfl
    refine take_ (i := 7) (N := some 25) (v := ?_) (a' := ?_) #[true, true, false, true, true, false, false, true, false, false, false, false, false, false, false] rfl rfl (take_ofW HT_.out HW_.out (by kernel_rfl)) (fun _ _ _ h => h) (Or.inl ⟨by rfl, ?_⟩) hHeld ?_ ?_
    rotate_left
    ·rintro w' ⟨s0, s1, s2, s3⟩
     go_simp
     with_reducible rfl
    rotate_left
    ·simp only [Act.put, List.setIfInBounds_toArray, List.set_cons_zero, List.set_cons_succ, i64_w, i32_w]
     rfl
    refine take_ (i := 8) (N := some 26) (v := ?_) (a' := ?_) #[true, true, false, true, true, false, false, true, true, false, false, false, false, false, false] rfl rfl (take_ofW HT_.out HW_.out (by kernel_rfl)) (fun _ _ _ h => h) (Or.inl ⟨by rfl, ?_⟩) hHeld ?_ ?_
    rotate_left
    ·rintro w' ⟨s0, s1, s2, s3⟩
     go_simp
     with_reducible rfl
    rotate_left
    ·simp only [Act.put, List.setIfInBounds_toArray, List.set_cons_zero, List.set_cons_succ, i64_w, i32_w]
     rfl
    refine one_ (i := 2) (N := some 20) #[true, true, true, true, true, false, false, true, true, false, false, false, false, false, false] rfl rfl (one_of HT_.out (by kernel_rfl)) (by decide) (fun K hK => ?_)
    refine goes_ Try.func30 (by kernel_rfl) rfl #[.int .u64 (IntKind.u64.wrap (a0))] (by rfl) rfl rfl (by (try simp only [List.map_toArray, List.map_cons, List.map_nil]); first | done | rfl | (simp only [List.length_drop, List.length_take]; rfl)) ?_
    with_reducible refine (spec_WideUint.calls k (IntKind.u64.wrap (a0)) t391 t392 _ A4.out).mono ?_
    rintro e w82 ⟨v393, rfl, ho0, hb⟩
    refine ⟨_, rfl, ?_⟩
    have n0_ := Aside0.mk (Kd.V_below (by (with_reducible repeat (first | apply Kd.V_alloc | apply Kd.V_drewN | apply Kd.V_drew)); exact HOa.out) hb)
    have n1_ := Aside0.mk (Kd.V_below (by (with_reducible repeat (first | apply Kd.V_alloc | apply Kd.V_drewN | apply Kd.V_drew)); exact HOb.out) hb)
    have n2_ := Aside0.mk (Kd.V_lower (Kd.V_mono (ok' := fun k_ => k_ ≠ gb389 ∧ k_ ≠ gb390) ho0 (fun k_ hk_ => ⟨(Kd.freshB (g := gb389) (o := .cells #[.bool t381, .slice Ao77 t382.length co77] 27 (0, 0)) (by (with_reducible repeat (first | refine blk_drewN ?_ _ | refine blk_drew ?_ | refine blk_alloc ?_ _)); exact BK389.out) k_ hk_), (Kd.freshB (g := gb390) (o := .cells #[.bool t385, .slice Ao79 t386.length co79] 27 (0, 0)) (by (with_reducible repeat (first | refine blk_drewN ?_ _ | refine blk_drew ?_ | refine blk_alloc ?_ _)); exact BK390.out) k_ hk_)⟩)) (below_size (by repeat (first | (with_reducible first | exact HB.out | apply below_alloc | apply pw_below_drewN | apply below_drew1 | refine below_set ?_ GE389.out | refine below_set ?_ GE390.out) | exact HB.out))))
    have n3_ := Aside0.mk (blk_below (g := gb389) (o := .cells #[.bool t381, .slice Ao77 t382.length co77] 27 (0, 0)) (by (with_reducible repeat (first | refine blk_drewN ?_ _ | refine blk_drew ?_ | refine blk_alloc ?_ _)); exact BK389.out) hb)
    have n4_ := Aside0.mk (blk_below (g := gb390) (o := .cells #[.bool t385, .slice Ao79 t386.length co79] 27 (0, 0)) (by (with_reducible repeat (first | refine blk_drewN ?_ _ | refine blk_drew ?_ | refine blk_alloc ?_ _)); exact BK390.out) hb)
    have n5_ := Aside0.mk (below_step (by repeat (first | (with_reducible first | exact HB.out | apply below_alloc | apply pw_below_drewN | apply below_drew1 | refine below_set ?_ GE389.out | refine below_set ?_ GE390.out) | exact HB.out)) hb)
    clear HOa HOb BK389 BK390 HB;have HOa := n0_;have HOb := n1_;have HOc := n2_;have BK389 := n3_;have BK390 := n4_;have HB := n5_;clear n0_ n1_ n2_ n3_ n4_ n5_;(try clear hb);(try clear hb2);(try clear hk);(try clear hi);(try clear ho0)
    refine hK.out _ _ ⟨(blk_cell BK389.out 0).trans rfl, (blk_cell BK389.out 1).trans rfl, (blk_cell BK390.out 0).trans rfl, (blk_cell BK390.out 1).trans rfl⟩ (fun hHeld => ?_)
    clear hK K
    refine norm_ (a' := ?_) ?_ ?_
    rotate_left
    ·show Act.put _ (some 20) _ = _
     simp only [Act.put, List.setIfInBounds_toArray, List.set_cons_zero, List.set_cons_succ, i64_w, i32_w]
     rfl
    refine one_ (i := 5) (N := some 23) #[true, true, true, true, true, true, false, true, true, false, false, false, false, false, false] rfl rfl (one_of HT_.out (by kernel_rfl)) (by decide) (fun K hK => ?_)
    refine goes_ Try.func30 (by kernel_rfl) rfl #[.int .u64 (IntKind.u64.wrap (a1))] (by rfl) rfl rfl (by (try simp only [List.map_toArray, List.map_cons, List.map_nil]); first | done | rfl | (simp only [List.length_drop, List.length_take]; rfl)) ?_
    with_reducible refine (spec_WideUint.calls k (IntKind.u64.wrap (a1)) t395 t396 _ A5.out).mono ?_
    rintro e w83 ⟨v397, rfl, ho0, hb⟩
    refine ⟨_, rfl, ?_⟩
    have n0_ := Aside0.mk (Kd.V_below (by (with_reducible repeat (first | apply Kd.V_alloc | apply Kd.V_drewN | apply Kd.V_drew)); exact HOa.out) hb)
    have n1_ := Aside0.mk (Kd.V_below (by (with_reducible repeat (first | apply Kd.V_alloc | apply Kd.V_drewN | apply Kd.V_drew)); exact HOb.out) hb)
    have n2_ := Aside0.mk (Kd.V_below (by (with_reducible repeat (first | apply Kd.V_alloc | apply Kd.V_drewN | apply Kd.V_drew)); exact HOc.out) hb)
    have n3_ := Aside0.mk (Kd.V_lower (Kd.V_mono (ok' := fun k_ => k_ ≠ gb389 ∧ k_ ≠ gb390) ho0 (fun k_ hk_ => ⟨(Kd.freshB (g := gb389) (o := .cells #[.bool t381, .slice Ao77 t382.length co77] 27 (0, 0)) (by (with_reducible repeat (first | refine blk_drewN ?_ _ | refine blk_drew ?_ | refine blk_alloc ?_ _)); exact BK389.out) k_ hk_), (Kd.freshB (g := gb390) (o := .cells #[.bool t385, .slice Ao79 t386.length co79] 27 (0, 0)) (by (with_reducible repeat (first | refine blk_drewN ?_ _ | refine blk_drew ?_ | refine blk_alloc ?_ _)); exact BK390.out) k_ hk_)⟩)) (below_size (by repeat (first | (with_reducible first | exact HB.out | apply below_alloc | apply pw_below_drewN | apply below_drew1 | refine below_set ?_ GE389.out | refine below_set ?_ GE390.out) | exact HB.out))))
    have n4_ := Aside0.mk (blk_below (g := gb389) (o := .cells #[.bool t381, .slice Ao77 t382.length co77] 27 (0, 0)) (by (with_reducible repeat (first | refine blk_drewN ?_ _ | refine blk_drew ?_ | refine blk_alloc ?_ _)); exact BK389.out) hb)
    have n5_ := Aside0.mk (blk_below (g := gb390) (o := .cells #[.bool t385, .slice Ao79 t386.length co79] 27 (0, 0)) (by (with_reducible repeat (first | refine blk_drewN ?_ _ | refine blk_drew ?_ | refine blk_alloc ?_ _)); exact BK390.out) hb)
    have n6_ := Aside0.mk (below_step (by repeat (first | (with_reducible first | exact HB.out | apply below_alloc | apply pw_below_drewN | apply below_drew1 | refine below_set ?_ GE389.out | refine below_set ?_ GE390.out) | exact HB.out)) hb)
    clear HOa HOb HOc BK389 BK390 HB;have HOa := n0_;have HOb := n1_;have HOc := n2_;have HOd := n3_;have BK389 := n4_;have BK390 := n5_;have HB := n6_;clear n0_ n1_ n2_ n3_ n4_ n5_ n6_;(try clear hb);(try clear hb2);(try clear hk);(try clear hi);(try clear ho0)
    obtain ⟨Ao84, co84, eo84⟩ := Kd.V_slice HOc.out
    (first | subst eo84 | (injection eo84 with f1_ f2_ f3_; have f4_ := f1_.symm; have f5_ := f3_.symm; clear f1_ f2_ f3_; subst f4_; subst f5_))
    obtain ⟨Ao85, co85, eo85⟩ := Kd.V_slice HOd.out
    (first | subst eo85 | (injection eo85 with f1_ f2_ f3_; have f4_ := f1_.symm; have f5_ := f3_.symm; clear f1_ f2_ f3_; subst f4_; subst f5_))
    refine hK.out _ _ ⟨(blk_cell BK389.out 0).trans rfl, (blk_cell BK389.out 1).trans rfl, (blk_cell BK390.out 0).trans rfl, (blk_cell BK390.out 1).trans rfl⟩ (fun hHeld => ?_)
    clear hK K
    refine norm_ (a' := ?_) ?_ ?_
    rotate_left
    ·show Act.put _ (some 23) _ = _
     simp only [Act.put, List.setIfInBounds_toArray, List.set_cons_zero, List.set_cons_succ, i64_w, i32_w]
     rfl
    refine one_ (i := 6) (N := some 24) #[true, true, true, true, true, true, true, true, true, false, false, false, false, false, false] rfl rfl (one_of HT_.out (by kernel_rfl)) (by decide) (fun K hK => ?_)
    refine goes_ Try.func29 (by kernel_rfl) rfl #[.agg #[.bool t391, .slice Ao84 t392.length co84], .agg #[.bool t395, .slice Ao85 t396.length co85]] (by rfl) rfl rfl (by (try simp only [List.map_toArray, List.map_cons, List.map_nil]); first | done | rfl | (simp only [List.length_drop, List.length_take]; rfl)) ?_
    with_reducible refine (spec_WideMul.calls k t391 _ _ t392 t395 _ _ t396 t399 t400 _ ?side1 ?side2 ?side3 ?side4 A6.out).mono ?_
    (case side1 => repeat (first | exact (Kd.V_reads' HOc.out).2.2 | (with_reducible refine Kd.C_alloc ?_ _) | (with_reducible refine Kd.C_drewN ?_ _) | (with_reducible refine Kd.C_drew ?_)))
    (case side2 => exact (Kd.V_reads' HOc.out).2.1)
    (case side3 => repeat (first | exact (Kd.V_reads' HOd.out).2.2 | (with_reducible refine Kd.C_alloc ?_ _) | (with_reducible refine Kd.C_drewN ?_ _) | (with_reducible refine Kd.C_drew ?_)))
    (case side4 => exact (Kd.V_reads' HOd.out).2.1)
    rintro e w86 ⟨v401, rfl, ho0, hb⟩
    refine ⟨_, rfl, ?_⟩
    have n0_ := Aside0.mk (Kd.V_below (by (with_reducible repeat (first | apply Kd.V_alloc | apply Kd.V_drewN | apply Kd.V_drew)); exact HOa.out) hb)
    have n1_ := Aside0.mk (Kd.V_below (by (with_reducible repeat (first | apply Kd.V_alloc | apply Kd.V_drewN | apply Kd.V_drew)); exact HOb.out) hb)
    have n2_ := Aside0.mk (Kd.V_below (by (with_reducible repeat (first | apply Kd.V_alloc | apply Kd.V_drewN | apply Kd.V_drew)); exact HOc.out) hb)
    have n3_ := Aside0.mk (Kd.V_below (by (with_reducible repeat (first | apply Kd.V_alloc | apply Kd.V_drewN | apply Kd.V_drew)); exact HOd.out) hb)
    have n4_ := Aside0.mk (Kd.V_lower (Kd.V_mono (ok' := fun k_ => k_ ≠ gb389 ∧ k_ ≠ gb390) ho0 (fun k_ hk_ => ⟨(Kd.freshB (g := gb389) (o := .cells #[.bool t381, .slice Ao77 t382.length co77] 27 (0, 0)) (by (with_reducible repeat (first | refine blk_drewN ?_ _ | refine blk_drew ?_ | refine blk_alloc ?_ _)); exact BK389.out) k_ hk_), (Kd.freshB (g := gb390) (o := .cells #[.bool t385, .slice Ao79 t386.length co79] 27 (0, 0)) (by (with_reducible repeat (first | refine blk_drewN ?_ _ | refine blk_drew ?_ | refine blk_alloc ?_ _)); exact BK390.out) k_ hk_)⟩)) (below_size (by repeat (first | (with_reducible first | exact HB.out | apply below_alloc | apply pw_below_drewN | apply below_drew1 | refine below_set ?_ GE389.out | refine below_set ?_ GE390.out) | exact HB.out))))
    have n5_ := Aside0.mk (blk_below (g := gb389) (o := .cells #[.bool t381, .slice Ao77 t382.length co77] 27 (0, 0)) (by (with_reducible repeat (first | refine blk_drewN ?_ _ | refine blk_drew ?_ | refine blk_alloc ?_ _)); exact BK389.out) hb)
    have n6_ := Aside0.mk (blk_below (g := gb390) (o := .cells #[.bool t385, .slice Ao79 t386.length co79] 27 (0, 0)) (by (with_reducible repeat (first | refine blk_drewN ?_ _ | refine blk_drew ?_ | refine blk_alloc ?_ _)); exact BK390.out) hb)
    have n7_ := Aside0.mk (below_step (by repeat (first | (with_reducible first | exact HB.out | apply below_alloc | apply pw_below_drewN | apply below_drew1 | refine below_set ?_ GE389.out | refine below_set ?_ GE390.out) | exact HB.out)) hb)
    clear HOa HOb HOc HOd BK389 BK390 HB;have HOa := n0_;have HOb := n1_;have HOc := n2_;have HOd := n3_;have HO402 := n4_;have BK389 := n5_;have BK390 := n6_;have HB := n7_;clear n0_ n1_ n2_ n3_ n4_ n5_ n6_ n7_;(try clear hb);(try clear hb2);(try clear hk);(try clear hi);(try clear ho0)
    obtain ⟨Ao87, co87, eo87⟩ := Kd.V_slice HO402.out
    (first | subst eo87 | (injection eo87 with f1_ f2_ f3_; have f4_ := f1_.symm; have f5_ := f3_.symm; clear f1_ f2_ f3_; subst f4_; subst f5_))
    refine hK.out _ _ ⟨(blk_cell BK389.out 0).trans rfl, (blk_cell BK389.out 1).trans rfl, (blk_cell BK390.out 0).trans rfl, (blk_cell BK390.out 1).trans rfl⟩ (fun hHeld => ?_)
    clear hK K
    refine norm_ (a' := ?_) ?_ ?_
    rotate_left
    ·show Act.put _ (some 24) _ = _
     simp only [Act.put, List.setIfInBounds_toArray, List.set_cons_zero, List.set_cons_succ, i64_w, i32_w]
     rfl
    refine one_ (i := 9) (N := some 27) #[true, true, true, true, true, true, true, true, true, true, false, false, false, false, false] rfl rfl (one_of HT_.out (by kernel_rfl)) (by decide) (fun K hK => ?_)
    refine goes_ Try.func26 (by kernel_rfl) rfl #[.agg #[.bool t399, .slice Ao87 t400.length co87], .agg #[.bool t381, .slice Ao77 t382.length co77], .agg #[.bool t385, .slice Ao79 t386.length co79]] (by rfl) rfl rfl (by (try simp only [List.map_toArray, List.map_cons, List.map_nil]); first | done | rfl | (simp only [List.length_drop, List.length_take]; rfl)) ?_
    with_reducible refine (laws_fitted.calls k t399 _ _ t400 t381 _ _ t382 t385 _ _ t386 t403 false _ ?side1 ?side2 ?side3 ?side4 ?side5 ?side6 A7.out).mono ?_
    (case side1 => repeat (first | exact (Kd.V_reads' HO402.out).2.2 | (with_reducible refine Kd.C_alloc ?_ _) | (with_reducible refine Kd.C_drewN ?_ _) | (with_reducible refine Kd.C_drew ?_)))
    (case side2 => exact (Kd.V_reads' HO402.out).2.1)
    (case side3 => repeat (first | exact (Kd.V_reads' HOa.out).2.2 | (with_reducible refine Kd.C_alloc ?_ _) | (with_reducible refine Kd.C_drewN ?_ _) | (with_reducible refine Kd.C_drew ?_)))
    (case side4 => exact (Kd.V_reads' HOa.out).2.1)
    (case side5 => repeat (first | exact (Kd.V_reads' HOb.out).2.2 | (with_reducible refine Kd.C_alloc ?_ _) | (with_reducible refine Kd.C_drewN ?_ _) | (with_reducible refine Kd.C_drew ?_)))
    (case side6 => exact (Kd.V_reads' HOb.out).2.1)
    rintro e w88 ⟨rfl, hb⟩
    refine ⟨_, rfl, ?_⟩
    have n0_ := Aside0.mk (Kd.V_below (by (with_reducible repeat (first | apply Kd.V_alloc | apply Kd.V_drewN | apply Kd.V_drew)); exact HOa.out) hb)
    have n1_ := Aside0.mk (Kd.V_below (by (with_reducible repeat (first | apply Kd.V_alloc | apply Kd.V_drewN | apply Kd.V_drew)); exact HOb.out) hb)
    have n2_ := Aside0.mk (Kd.V_below (by (with_reducible repeat (first | apply Kd.V_alloc | apply Kd.V_drewN | apply Kd.V_drew)); exact HOc.out) hb)
    have n3_ := Aside0.mk (Kd.V_below (by (with_reducible repeat (first | apply Kd.V_alloc | apply Kd.V_drewN | apply Kd.V_drew)); exact HOd.out) hb)
    have n4_ := Aside0.mk (Kd.V_below (by (with_reducible repeat (first | apply Kd.V_alloc | apply Kd.V_drewN | apply Kd.V_drew)); exact HO402.out) hb)
    have n5_ := Aside0.mk (blk_below (g := gb389) (o := .cells #[.bool t381, .slice Ao77 t382.length co77] 27 (0, 0)) (by (with_reducible repeat (first | refine blk_drewN ?_ _ | refine blk_drew ?_ | refine blk_alloc ?_ _)); exact BK389.out) hb)
    have n6_ := Aside0.mk (blk_below (g := gb390) (o := .cells #[.bool t385, .slice Ao79 t386.length co79] 27 (0, 0)) (by (with_reducible repeat (first | refine blk_drewN ?_ _ | refine blk_drew ?_ | refine blk_alloc ?_ _)); exact BK390.out) hb)
    have n7_ := Aside0.mk (below_step (by repeat (first | (with_reducible first | exact HB.out | apply below_alloc | apply pw_below_drewN | apply below_drew1 | refine below_set ?_ GE389.out | refine below_set ?_ GE390.out) | exact HB.out)) hb)
    clear HOa HOb HOc HOd HO402 BK389 BK390 HB;have HOa := n0_;have HOb := n1_;have HOc := n2_;have HOd := n3_;have HO402 := n4_;have BK389 := n5_;have BK390 := n6_;have HB := n7_;clear n0_ n1_ n2_ n3_ n4_ n5_ n6_ n7_;(try clear hb);(try clear hb2);(try clear hk);(try clear hi)
    refine hK.out _ _ ⟨(blk_cell BK389.out 0).trans rfl, (blk_cell BK389.out 1).trans rfl, (blk_cell BK390.out 0).trans rfl, (blk_cell BK390.out 1).trans rfl⟩ (fun hHeld => ?_)
    clear hK K
    refine norm_ (a' := ?_) ?_ ?_
    rotate_left
    ·show Act.put _ (some 27) _ = _
     simp only [Act.put, List.setIfInBounds_toArray, List.set_cons_zero, List.set_cons_succ, i64_w, i32_w]
     rfl
    refine pure_ (i := 10) (N := some 17) (v := ?_) (a' := ?_) #[true, true, true, true, true, true, true, true, true, true, true, false, false, false, false] rfl rfl (any_of HT_.out (by kernel_rfl)) (fun _ _ _ h => h) (Or.inl ⟨by rfl, ?_⟩) ?_ ?_
    rotate_left
    ·intro w'
     go_simp
     with_reducible rfl
    rotate_left
    ·simp only [Act.put, List.setIfInBounds_toArray, List.set_cons_zero, List.set_cons_succ, i64_w, i32_w]
     rfl
    refine pure_ (i := 11) (N := some 28) (v := ?_) (a' := ?_) #[true, true, true, true, true, true, true, true, true, true, true, true, false, false, false] rfl rfl (any_of HT_.out (by kernel_rfl)) (fun _ _ _ h => h) (Or.inl ⟨by rfl, ?_⟩) ?_ ?_
    rotate_left
    ·intro w'
     go_simp
     with_reducible rfl
    rotate_left
    ·simp only [Act.put, List.setIfInBounds_toArray, List.set_cons_zero, List.set_cons_succ, i64_w, i32_w]
     rfl
    refine pure_ (i := 12) (N := some 29) (v := ?_) (a' := ?_) #[true, true, true, true, true, true, true, true, true, true, true, true, true, false, false] rfl rfl (any_of HT_.out (by kernel_rfl)) (fun _ _ _ h => h) (Or.inl ⟨by rfl, ?_⟩) ?_ ?_
    rotate_left
    ·intro w'
     go_simp
     with_reducible rfl
    rotate_left
    ·simp only [Act.put, List.setIfInBounds_toArray, List.set_cons_zero, List.set_cons_succ, i64_w, i32_w]
     rfl
    refine pure_ (i := 13) (N := some 7) (v := ?_) (a' := ?_) #[true, true, true, true, true, true, true, true, true, true, true, true, true, true, false] rfl rfl (any_of HT_.out (by kernel_rfl)) (fun _ _ _ h => h) (Or.inl ⟨by rfl, ?_⟩) ?_ ?_
    rotate_left
    ·intro w'
     go_simp
     with_reducible rfl
    rotate_left
    ·simp only [Act.put, List.setIfInBounds_toArray, List.set_cons_zero, List.set_cons_succ, i64_w, i32_w]
     rfl
    refine pure_ (i := 14) (N := some 8) (v := ?_) (a' := ?_) #[true, true, true, true, true, true, true, true, true, true, true, true, true, true, true] rfl rfl (any_of HT_.out (by kernel_rfl)) (fun _ _ _ h => h) (Or.inl ⟨by rfl, ?_⟩) ?_ ?_
    rotate_left
    ·intro w'
     go_simp
     with_reducible rfl
    rotate_left
    ·simp only [Act.put, List.setIfInBounds_toArray, List.set_cons_zero, List.set_cons_succ, i64_w, i32_w]
     rfl
    refine done_ (done_of HT_.out (by kernel_rfl)) ?_
    try go_wp2_with (first | ((with_reducible refine gate_callee (f := 31) rfl ?_); refine goesL_ (some 33) rfl rfl Try.func31 (by kernel_rfl) rfl #[.int .u16 a0, .int .u16 a1] rfl (by (try simp only [List.map_toArray, List.map_cons, List.map_nil]); first | done | rfl | (simp only [List.length_drop, List.length_take]; rfl)) ?_; (with_reducible refine (impl_MulUint16.calls a0 a1 t405 t406 _ A8.out).mono ?_); rintro e w89 ⟨rfl, hb⟩; refine ⟨_, rfl, ?_⟩; have n0_ := Aside0.mk (Kd.V_below (by (with_reducible repeat (first | apply Kd.V_alloc | apply Kd.V_drewN | apply Kd.V_drew)); exact HOa.out) hb); have n1_ := Aside0.mk (Kd.V_below (by (with_reducible repeat (first | apply Kd.V_alloc | apply Kd.V_drewN | apply Kd.V_drew)); exact HOb.out) hb); have n2_ := Aside0.mk (Kd.V_below (by (with_reducible repeat (first | apply Kd.V_alloc | apply Kd.V_drewN | apply Kd.V_drew)); exact HOc.out) hb); have n3_ := Aside0.mk (Kd.V_below (by (with_reducible repeat (first | apply Kd.V_alloc | apply Kd.V_drewN | apply Kd.V_drew)); exact HOd.out) hb); have n4_ := Aside0.mk (Kd.V_below (by (with_reducible repeat (first | apply Kd.V_alloc | apply Kd.V_drewN | apply Kd.V_drew)); exact HO402.out) hb); have n5_ := Aside0.mk (blk_below (g := gb389) (o := .cells #[.bool t381, .slice Ao77 t382.length co77] 27 (0, 0)) (by (with_reducible repeat (first | refine blk_drewN ?_ _ | refine blk_drew ?_ | refine blk_alloc ?_ _)); exact BK389.out) hb); have n6_ := Aside0.mk (blk_below (g := gb390) (o := .cells #[.bool t385, .slice Ao79 t386.length co79] 27 (0, 0)) (by (with_reducible repeat (first | refine blk_drewN ?_ _ | refine blk_drew ?_ | refine blk_alloc ?_ _)); exact BK390.out) hb); have n7_ := Aside0.mk (below_step (by repeat (first | (with_reducible first | exact HB.out | apply below_alloc | apply pw_below_drewN | apply below_drew1 | refine below_set ?_ GE389.out | refine below_set ?_ GE390.out) | exact HB.out)) hb); clear HOa; clear HOb; clear HOc; clear HOd; clear HO402; clear BK389; clear BK390; clear HB; have HOa := n0_; have HOb := n1_; have HOc := n2_; have HOd := n3_; have HO402 := n4_; have BK389 := n5_; have BK390 := n6_; have HB := n7_; clear n0_ n1_ n2_ n3_ n4_ n5_ n6_ n7_; (try clear hb); (try clear hb2); (try clear hk); (try clear hi)) | ((with_reducible refine gate_callee (f := 31) rfl ?_); refine goesL_ (some 37) rfl rfl Try.func31 (by kernel_rfl) rfl #[.int .u16 2, .int .u16 3] rfl (by (try simp only [List.map_toArray, List.map_cons, List.map_nil]); first | done | rfl | (simp only [List.length_drop, List.length_take]; rfl)) ?_; (with_reducible refine (impl_MulUint16.calls 2 3 t407 true _ A9.out).mono ?_); rintro e w90 ⟨rfl, hb⟩; refine ⟨_, rfl, ?_⟩; have n0_ := Aside0.mk (Kd.V_below (by (with_reducible repeat (first | apply Kd.V_alloc | apply Kd.V_drewN | apply Kd.V_drew)); exact HOa.out) hb); have n1_ := Aside0.mk (Kd.V_below (by (with_reducible repeat (first | apply Kd.V_alloc | apply Kd.V_drewN | apply Kd.V_drew)); exact HOb.out) hb); have n2_ := Aside0.mk (Kd.V_below (by (with_reducible repeat (first | apply Kd.V_alloc | apply Kd.V_drewN | apply Kd.V_drew)); exact HOc.out) hb); have n3_ := Aside0.mk (Kd.V_below (by (with_reducible repeat (first | apply Kd.V_alloc | apply Kd.V_drewN | apply Kd.V_drew)); exact HOd.out) hb); have n4_ := Aside0.mk (Kd.V_below (by (with_reducible repeat (first | apply Kd.V_alloc | apply Kd.V_drewN | apply Kd.V_drew)); exact HO402.out) hb); have n5_ := Aside0.mk (blk_below (g := gb389) (o := .cells #[.bool t381, .slice Ao77 t382.length co77] 27 (0, 0)) (by (with_reducible repeat (first | refine blk_drewN ?_ _ | refine blk_drew ?_ | refine blk_alloc ?_ _)); exact BK389.out) hb); have n6_ := Aside0.mk (blk_below (g := gb390) (o := .cells #[.bool t385, .slice Ao79 t386.length co79] 27 (0, 0)) (by (with_reducible repeat (first | refine blk_drewN ?_ _ | refine blk_drew ?_ | refine blk_alloc ?_ _)); exact BK390.out) hb); have n7_ := Aside0.mk (below_step (by repeat (first | (with_reducible first | exact HB.out | apply below_alloc | apply pw_below_drewN | apply below_drew1 | refine below_set ?_ GE389.out | refine below_set ?_ GE390.out) | exact HB.out)) hb); clear HOa; clear HOb; clear HOc; clear HOd; clear HO402; clear BK389; clear BK390; clear HB; have HOa := n0_; have HOb := n1_; have HOc := n2_; have HOd := n3_; have HO402 := n4_; have BK389 := n5_; have BK390 := n6_; have HB := n7_; clear n0_ n1_ n2_ n3_ n4_ n5_ n6_ n7_; (try clear hb); (try clear hb2); (try clear hk); (try clear hi)))
    go_ret
    exact ⟨by first | rfl | (simp [errW_none, errW_some] <;> rfl) | (simp [*, errW_none, errW_some] <;> rfl), by repeat (first | (with_reducible first | exact HB.out | apply below_alloc | apply pw_below_drewN | apply below_drew1 | refine below_set ?_ GE389.out | refine below_set ?_ GE390.out) | exact HB.out)⟩
   ·replace c71 := Bool.eq_false_iff.mpr c71
    subst c71
    have H1 : (some false) = some r := by rw [if_neg (show ¬ (false = true) by decide)] at H; exact H
    clear H;have H := H1;clear H1
    obtain rfl := Option.some.inj H
    go_enter Try.func12, Try.ntmps12
    try go_wp2_with (first | ((with_reducible refine gate_callee (f := 25) rfl ?_); refine goesL_ (some 14) rfl rfl Try.func25 (by kernel_rfl) rfl #[.int .i64 16, .bool false] rfl (by (try simp only [List.map_toArray, List.map_cons, List.map_nil]); first | done | rfl | (simp only [List.length_drop, List.length_take]; rfl)) ?_; (with_reducible refine (laws_bounds.calls k 16 false t381 t382 t385 t386 _ A3.out).mono ?_); rintro e w91 ⟨v383, v387, rfl, ho0, ho1, hb⟩; refine ⟨_, rfl, ?_⟩; have n0_ := Aside0.mk (Kd.V_lower (Kd.V_mono (ok' := fun k_ => True) ho0 (fun k_ hk_ => trivial)) (below_size (by repeat (first | (with_reducible first | exact HB.out | apply below_alloc | apply pw_below_drewN | apply below_drew1) | exact HB.out)))); have n1_ := Aside0.mk (Kd.V_lower (Kd.V_mono (ok' := fun k_ => True) ho1 (fun k_ hk_ => trivial)) (below_size (by repeat (first | (with_reducible first | exact HB.out | apply below_alloc | apply pw_below_drewN | apply below_drew1) | exact HB.out)))); have n2_ := Aside0.mk (below_step (by repeat (first | (with_reducible first | exact HB.out | apply below_alloc | apply pw_below_drewN | apply below_drew1) | exact HB.out)) hb); clear HB; have HOa := n0_; have HOb := n1_; have HB := n2_; clear n0_ n1_ n2_; (try clear hb); (try clear hb2); (try clear hk); (try clear hi); (try clear ho0); (try clear ho1)) | ((with_reducible refine gate_dst (N := 5) rfl ?_); refine box_event ?hg (N := 5) ?hd (cs := #[.bool false, .slice none 0 0]) (t := 27) ?hr ?_; (case hd => rfl); (case hg => rfl); (case hr => first | (go_simp; done) | (go_simp; rfl)); intro gb389 hg w92 hbox hb; have n0_ := Aside0.mk (Kd.V_below (Kd.V_elderB (by (with_reducible repeat (first | apply Kd.V_alloc | apply Kd.V_drewN | apply Kd.V_drew)); exact HOa.out) gb389 (Nat.le_of_eq hg.symm)) hb); have n1_ := Aside0.mk (Kd.V_below (Kd.V_elderB (by (with_reducible repeat (first | apply Kd.V_alloc | apply Kd.V_drewN | apply Kd.V_drew)); exact HOb.out) gb389 (Nat.le_of_eq hg.symm)) hb); have n2_ := Aside0.mk (below_step (by repeat (first | (with_reducible first | exact HB.out | apply below_alloc | apply pw_below_drewN | apply below_drew1) | exact HB.out)) hb); have n3_ := Aside0.mk (hbox); have n4_ := Aside0.mk ((by rw [hg]; exact (below_size (by repeat (first | (with_reducible first | exact HB.out | apply below_alloc | apply pw_below_drewN | apply below_drew1) | exact HB.out))) : w.heap.size ≤ gb389)); have n5_ := Aside0.mk ((by rw [hg]; exact (below_size (by repeat (first | (with_reducible first | exact HB.out | apply below_alloc | apply pw_below_drewN | apply below_drew1) | exact HB.out))) : w.heap.size ≤ gb389)); clear HOa; clear HOb; clear HB; have HOa := n0_; have HOb := n1_; have HB := n2_; have BK389 := n3_; have GW389 := n4_; have GE389 := n5_; clear n0_ n1_ n2_ n3_ n4_ n5_; clear hb hbox hg) | ((with_reducible refine gate_dst (N := 6) rfl ?_); refine box_event ?hg (N := 6) ?hd (cs := #[.bool false, .slice none 0 0]) (t := 27) ?hr ?_; (case hd => rfl); (case hg => rfl); (case hr => first | (go_simp; done) | (go_simp; rfl)); intro gb390 hg w93 hbox hb; have n0_ := Aside0.mk (Kd.V_below (Kd.V_elderB (by (with_reducible repeat (first | apply Kd.V_alloc | apply Kd.V_drewN | apply Kd.V_drew)); exact HOa.out) gb390 (Nat.le_of_eq hg.symm)) hb); have n1_ := Aside0.mk (Kd.V_below (Kd.V_elderB (by (with_reducible repeat (first | apply Kd.V_alloc | apply Kd.V_drewN | apply Kd.V_drew)); exact HOb.out) gb390 (Nat.le_of_eq hg.symm)) hb); have n2_ := Aside0.mk (blk_below (g := gb389) (o := .cells #[.bool false, .slice none 0 0] 27 (0, 0)) (by (with_reducible repeat (first | refine blk_drewN ?_ _ | refine blk_drew ?_ | refine blk_alloc ?_ _)); exact BK389.out) hb); have n3_ := Aside0.mk (below_step (by repeat (first | (with_reducible first | exact HB.out | apply below_alloc | apply pw_below_drewN | apply below_drew1 | refine below_set ?_ GE389.out) | exact HB.out)) hb); have n4_ := Aside0.mk (hbox); have n5_ := Aside0.mk ((by rw [hg]; exact (below_size (by repeat (first | (with_reducible first | exact HB.out | apply below_alloc | apply pw_below_drewN | apply below_drew1 | refine below_set ?_ GE389.out) | exact HB.out))) : w.heap.size ≤ gb390)); have n6_ := Aside0.mk ((by rw [hg]; exact (below_size (by repeat (first | (with_reducible first | exact HB.out | apply below_alloc | apply pw_below_drewN | apply below_drew1 | refine below_set ?_ GE389.out) | exact HB.out))) : w.heap.size ≤ gb390)); have n7_ := Aside0.mk ((by rw [hg]; exact Nat.ne_of_lt (blk_lt (g := gb389) (o := .cells #[.bool false, .slice none 0 0] 27 (0, 0)) (by (with_reducible repeat (first | refine blk_drewN ?_ _ | refine blk_drew ?_ | refine blk_alloc ?_ _)); exact BK389.out)) : gb389 ≠ gb390)); have n8_ := Aside0.mk ((by rw [hg]; exact Nat.ne_of_gt (blk_lt (g := gb389) (o := .cells #[.bool false, .slice none 0 0] 27 (0, 0)) (by (with_reducible repeat (first | refine blk_drewN ?_ _ | refine blk_drew ?_ | refine blk_alloc ?_ _)); exact BK389.out)) : gb390 ≠ gb389)); clear HOa; clear HOb; clear BK389; clear HB; have HOa := n0_; have HOb := n1_; have BK389 := n2_; have HB := n3_; have BK390 := n4_; have GW390 := n5_; have GE390 := n6_; have NB389_390 := n7_; have NB390_389 := n8_; clear n0_ n1_ n2_ n3_ n4_ n5_ n6_ n7_ n8_; clear hb hbox hg; have hnb94 := NB389_390.out; have hnc94 := NB390_389.out; have hcz95_0 : w93.cell? ⟨gb389, 0, none⟩ = some (.bool false) := (blk_cell BK389.out 0).trans rfl; have hcz95_1 : w93.cell? ⟨gb389, 1, none⟩ = some (.slice none 0 0) := (blk_cell BK389.out 1).trans rfl; have hfz95_0 := blk_frozen BK389.out 0; have hfz95_1 := blk_frozen BK389.out 1; obtain ⟨Ao96, co96, eo96⟩ := Kd.V_slice HOa.out; subst eo96; have hcz97_0 : w93.cell? ⟨gb390, 0, none⟩ = some (.bool false) := (blk_cell BK390.out 0).trans rfl; have hcz97_1 : w93.cell? ⟨gb390, 1, none⟩ = some (.slice none 0 0) := (blk_cell BK390.out 1).trans rfl; have hfz97_0 := blk_frozen BK390.out 0; have hfz97_1 := blk_frozen BK390.out 1; obtain ⟨Ao98, co98, eo98⟩ := Kd.V_slice HOb.out; subst eo98))
    have n0_ : Aside0 (Kd.V (Kd.int .u32) 44 ((((w93.setCell ⟨gb389, 0, none⟩ (.bool t381)).setCell ⟨gb389, 1, none⟩ (.slice Ao96 t382.length co96)).setCell ⟨gb390, 0, none⟩ (.bool t385)).setCell ⟨gb390, 1, none⟩ (.slice Ao98 t386.length co98)) w.heap.size (fun k_ => k_ ≠ gb389 ∧ k_ ≠ gb390) (.slice Ao96 t382.length co96) t382) := ⟨by (with_reducible repeat (first | apply Kd.V_alloc | apply Kd.V_drewN | apply Kd.V_drew)); exact Kd.V_mono (Kd.V_far (p := ⟨gb390, 1, none⟩) (Kd.V_far (p := ⟨gb390, 0, none⟩) (Kd.V_far (p := ⟨gb389, 1, none⟩) (Kd.V_far (p := ⟨gb389, 0, none⟩) (Kd.V_mono (Kd.V_mono HOa.out (fun k_ hk => (⟨hk, hk.1.2⟩ : _ ∧ k_ ≠ gb389))) (fun k_ hk => (⟨hk, hk.1.2⟩ : _ ∧ k_ ≠ gb390))) (fun _ hk => hk.1.2) (.bool t381)) (fun _ hk => hk.1.2) (.slice Ao96 t382.length co96)) (fun _ hk => hk.2) (.bool t385)) (fun _ hk => hk.2) (.slice Ao98 t386.length co98)) (fun _ hk => ⟨hk.1.1.1.2, hk.1.1.2⟩)⟩
    have n1_ : Aside0 (Kd.V (Kd.int .u32) 44 ((((w93.setCell ⟨gb389, 0, none⟩ (.bool t381)).setCell ⟨gb389, 1, none⟩ (.slice Ao96 t382.length co96)).setCell ⟨gb390, 0, none⟩ (.bool t385)).setCell ⟨gb390, 1, none⟩ (.slice Ao98 t386.length co98)) w.heap.size (fun k_ => k_ ≠ gb389 ∧ k_ ≠ gb390) (.slice Ao98 t386.length co98) t386) := ⟨by (with_reducible repeat (first | apply Kd.V_alloc | apply Kd.V_drewN | apply Kd.V_drew)); exact Kd.V_mono (Kd.V_far (p := ⟨gb390, 1, none⟩) (Kd.V_far (p := ⟨gb390, 0, none⟩) (Kd.V_far (p := ⟨gb389, 1, none⟩) (Kd.V_far (p := ⟨gb389, 0, none⟩) (Kd.V_mono (Kd.V_mono HOb.out (fun k_ hk => (⟨hk, hk.1.2⟩ : _ ∧ k_ ≠ gb389))) (fun k_ hk => (⟨hk, hk.1.2⟩ : _ ∧ k_ ≠ gb390))) (fun _ hk => hk.1.2) (.bool t381)) (fun _ hk => hk.1.2) (.slice Ao96 t382.length co96)) (fun _ hk => hk.2) (.bool t385)) (fun _ hk => hk.2) (.slice Ao98 t386.length co98)) (fun _ hk => ⟨hk.1.1.1.2, hk.1.1.2⟩)⟩
    have n2_ : Aside0 (((((w93.setCell ⟨gb389, 0, none⟩ (.bool t381)).setCell ⟨gb389, 1, none⟩ (.slice Ao96 t382.length co96)).setCell ⟨gb390, 0, none⟩ (.bool t385)).setCell ⟨gb390, 1, none⟩ (.slice Ao98 t386.length co98)).heap[gb389]? = some (.cells #[.bool t381, .slice Ao96 t382.length co96] 27 (0, 0))) := ⟨by (with_reducible repeat (first | refine blk_drewN ?_ _ | refine blk_drew ?_ | refine blk_alloc ?_ _)); refine blk_far ?_ NB389_390.out _; (with_reducible repeat (first | refine blk_drewN ?_ _ | refine blk_drew ?_ | refine blk_alloc ?_ _)); refine blk_far ?_ NB389_390.out _; (with_reducible repeat (first | refine blk_drewN ?_ _ | refine blk_drew ?_ | refine blk_alloc ?_ _)); refine blk_put (cs := #[.bool t381, .slice none 0 0]) ?_ 1 _ rfl; (with_reducible repeat (first | refine blk_drewN ?_ _ | refine blk_drew ?_ | refine blk_alloc ?_ _)); refine blk_put (cs := #[.bool false, .slice none 0 0]) ?_ 0 _ rfl; (with_reducible repeat (first | refine blk_drewN ?_ _ | refine blk_drew ?_ | refine blk_alloc ?_ _)); exact BK389.out⟩
    have n3_ : Aside0 (((((w93.setCell ⟨gb389, 0, none⟩ (.bool t381)).setCell ⟨gb389, 1, none⟩ (.slice Ao96 t382.length co96)).setCell ⟨gb390, 0, none⟩ (.bool t385)).setCell ⟨gb390, 1, none⟩ (.slice Ao98 t386.length co98)).heap[gb390]? = some (.cells #[.bool t385, .slice Ao98 t386.length co98] 27 (0, 0))) := ⟨by (with_reducible repeat (first | refine blk_drewN ?_ _ | refine blk_drew ?_ | refine blk_alloc ?_ _)); refine blk_put (cs := #[.bool t385, .slice none 0 0]) ?_ 1 _ rfl; (with_reducible repeat (first | refine blk_drewN ?_ _ | refine blk_drew ?_ | refine blk_alloc ?_ _)); refine blk_put (cs := #[.bool false, .slice none 0 0]) ?_ 0 _ rfl; (with_reducible repeat (first | refine blk_drewN ?_ _ | refine blk_drew ?_ | refine blk_alloc ?_ _)); refine blk_far ?_ NB390_389.out _; (with_reducible repeat (first | refine blk_drewN ?_ _ | refine blk_drew ?_ | refine blk_alloc ?_ _)); refine blk_far ?_ NB390_389.out _; (with_reducible repeat (first | refine blk_drewN ?_ _ | refine blk_drew ?_ | refine blk_alloc ?_ _)); exact BK390.out⟩
    have n4_ : Aside0 (Below w.heap.size w ((((w93.setCell ⟨gb389, 0, none⟩ (.bool t381)).setCell ⟨gb389, 1, none⟩ (.slice Ao96 t382.length co96)).setCell ⟨gb390, 0, none⟩ (.bool t385)).setCell ⟨gb390, 1, none⟩ (.slice Ao98 t386.length co98))) := ⟨by repeat (first | (with_reducible first | exact HB.out | apply below_alloc | apply pw_below_drewN | apply below_drew1 | refine below_set ?_ GE389.out | refine below_set ?_ GE390.out) | exact HB.out)⟩
    (try clear HOa);(try clear HOb);(try clear BK389);(try clear BK390);(try clear HB)
    generalize ((((w93.setCell ⟨gb389, 0, none⟩ (.bool t381)).setCell ⟨gb389, 1, none⟩ (.slice Ao96 t382.length co96)).setCell ⟨gb390, 0, none⟩ (.bool t385)).setCell ⟨gb390, 1, none⟩ (.slice Ao98 t386.length co98)) = w99 at n0_ n1_ n2_ n3_ n4_ ⊢
    have HOa := n0_;have HOb := n1_;have BK389 := n2_;have BK390 := n3_;have HB := n4_;clear n0_ n1_ n2_ n3_ n4_
    have n0_ := Aside0.mk (Kd.V_drew HOa.out)
    have n1_ := Aside0.mk (Kd.V_drew HOb.out)
    have n2_ := Aside0.mk (blk_drew BK389.out)
    have n3_ := Aside0.mk (blk_drew BK390.out)
    have n4_ := Aside0.mk (below_drew1 HB.out)
    clear HOa HOb BK389 BK390 HB;have HOa := n0_;have HOb := n1_;have BK389 := n2_;have BK390 := n3_;have HB := n4_;clear n0_ n1_ n2_ n3_ n4_
    refine start_ (n := 15) (S := fun w' => w'.cell? ⟨gb389, 0, none⟩ = some (.bool t381) ∧ w'.cell? ⟨gb389, 1, none⟩ = some (.slice Ao96 t382.length co96) ∧ w'.cell? ⟨gb390, 0, none⟩ = some (.bool t385) ∧ w'.cell? ⟨gb390, 1, none⟩ = some (.slice Ao98 t386.length co98)) (ds := []) #[false, false, false, false, false, false, false, false, false, false, false, false, false, false, false] (by kernel_rfl) rfl rfl ⟨(blk_cell BK389.out 0).trans rfl, (blk_cell BK389.out 1).trans rfl, (blk_cell BK390.out 0).trans rfl, (blk_cell BK390.out 1).trans rfl⟩ (fun hHeld => ?_); refine with_tabW laws_FnMulUint16.tab2 laws_FnMulUint16.bits2 (fun HT_ HW_ => ?_)
    generalize w99.drew = w100 at HOa HOb BK389 BK390 HB hHeld ⊢
    refine pure_ (i := 0) (N := some 18) (v := ?_) (a' := ?_) #[true, false, false, false, false, false, false, false, false, false, false, false, false, false, false] rfl rfl (any_of HT_.out (by kernel_rfl)) (fun _ _ _ h => h) (Or.inl ⟨by rfl, ?_⟩) ?_ ?_
    rotate_left
    ·intro w'
     go_simp
     with_reducible rfl
    rotate_left
    ·simp only [Act.put, List.setIfInBounds_toArray, List.set_cons_zero, List.set_cons_succ, i64_w, i32_w]
     rfl
    refine pure_ (i := 1) (N := some 19) (v := ?_) (a' := ?_) #[true, true, false, false, false, false, false, false, false, false, false, false, false, false, false] rfl rfl (any_of HT_.out (by kernel_rfl)) (fun _ _ _ h => h) (Or.inl ⟨by rfl, ?_⟩) ?_ ?_
    rotate_left
    ·intro w'
     go_simp
     with_reducible rfl
    rotate_left
    ·simp only [Act.put, List.setIfInBounds_toArray, List.set_cons_zero, List.set_cons_succ, i64_w, i32_w]
     rfl
    refine pure_ (i := 3) (N := some 21) (v := ?_) (a' := ?_) #[true, true, false, true, false, false, false, false, false, false, false, false, false, false, false] rfl rfl (any_of HT_.out (by kernel_rfl)) (fun _ _ _ h => h) (Or.inl ⟨by rfl, ?_⟩) ?_ ?_
    rotate_left
    ·intro w'
     go_simp
     with_reducible rfl
    rotate_left
    ·simp only [Act.put, List.setIfInBounds_toArray, List.set_cons_zero, List.set_cons_succ, i64_w, i32_w]
     rfl
    refine pure_ (i := 4) (N := some 22) (v := ?_) (a' := ?_) #[true, true, false, true, true, false, false, false, false, false, false, false, false, false, false] rfl rfl (any_of HT_.out (by kernel_rfl)) (fun _ _ _ h => h) (Or.inl ⟨by rfl, ?_⟩) ?_ ?_
    rotate_left
    ·intro w'
     go_simp
     with_reducible rfl
    rotate_left
    ·simp only [Act.put, List.setIfInBounds_toArray, List.set_cons_zero, List.set_cons_succ, i64_w, i32_w]
     rfl
    refine take_ (i := 7) (N := some 25) (v := ?_) (a' := ?_) #[true, true, false, true, true, false, false, true, false, false, false, false, false, false, false] rfl rfl (take_ofW HT_.out HW_.out (by kernel_rfl)) (fun _ _ _ h => h) (Or.inl ⟨by rfl, ?_⟩) hHeld ?_ ?_
    rotate_left
    ·rintro w' ⟨s0, s1, s2, s3⟩
     go_simp
     with_reducible rfl
    rotate_left
    ·simp only [Act.put, List.setIfInBounds_toArray, List.set_cons_zero, List.set_cons_succ, i64_w, i32_w]
     rfl
    refine take_ (i := 8) (N := some 26) (v := ?_) (a' := ?_) #[true, true, false, true, true, false, false, true, true, false, false, false, false, false, false] rfl rfl (take_ofW HT_.out HW_.out (by kernel_rfl)) (fun _ _ _ h => h) (Or.inl ⟨by rfl, ?_⟩) hHeld ?_ ?_
    rotate_left
    ·rintro w' ⟨s0, s1, s2, s3⟩
     go_simp
     with_reducible rfl
    rotate_left
    ·simp only [Act.put, List.setIfInBounds_toArray, List.set_cons_zero, List.set_cons_succ, i64_w, i32_w]
     rfl
    refine one_ (i := 2) (N := some 20) #[true, true, true, true, true, false, false, true, true, false, false, false, false, false, false] rfl rfl (one_of HT_.out (by kernel_rfl)) (by decide) (fun K hK => ?_)
    refine goes_ Try.func30 (by kernel_rfl) rfl #[.int .u64 (IntKind.u64.wrap (a0))] (by rfl) rfl rfl (by (try simp only [List.map_toArray, List.map_cons, List.map_nil]); first | done | rfl | (simp only [List.length_drop, List.length_take]; rfl)) ?_
    with_reducible refine (spec_WideUint.calls k (IntKind.u64.wrap (a0)) t391 t392 _ A4.out).mono ?_
    rintro e w101 ⟨v393, rfl, ho0, hb⟩
    refine ⟨_, rfl, ?_⟩
    have n0_ := Aside0.mk (Kd.V_below (by (with_reducible repeat (first | apply Kd.V_alloc | apply Kd.V_drewN | apply Kd.V_drew)); exact HOa.out) hb)
    have n1_ := Aside0.mk (Kd.V_below (by (with_reducible repeat (first | apply Kd.V_alloc | apply Kd.V_drewN | apply Kd.V_drew)); exact HOb.out) hb)
    have n2_ := Aside0.mk (Kd.V_lower (Kd.V_mono (ok' := fun k_ => k_ ≠ gb389 ∧ k_ ≠ gb390) ho0 (fun k_ hk_ => ⟨(Kd.freshB (g := gb389) (o := .cells #[.bool t381, .slice Ao96 t382.length co96] 27 (0, 0)) (by (with_reducible repeat (first | refine blk_drewN ?_ _ | refine blk_drew ?_ | refine blk_alloc ?_ _)); exact BK389.out) k_ hk_), (Kd.freshB (g := gb390) (o := .cells #[.bool t385, .slice Ao98 t386.length co98] 27 (0, 0)) (by (with_reducible repeat (first | refine blk_drewN ?_ _ | refine blk_drew ?_ | refine blk_alloc ?_ _)); exact BK390.out) k_ hk_)⟩)) (below_size (by repeat (first | (with_reducible first | exact HB.out | apply below_alloc | apply pw_below_drewN | apply below_drew1 | refine below_set ?_ GE389.out | refine below_set ?_ GE390.out) | exact HB.out))))
    have n3_ := Aside0.mk (blk_below (g := gb389) (o := .cells #[.bool t381, .slice Ao96 t382.length co96] 27 (0, 0)) (by (with_reducible repeat (first | refine blk_drewN ?_ _ | refine blk_drew ?_ | refine blk_alloc ?_ _)); exact BK389.out) hb)
    have n4_ := Aside0.mk (blk_below (g := gb390) (o := .cells #[.bool t385, .slice Ao98 t386.length co98] 27 (0, 0)) (by (with_reducible repeat (first | refine blk_drewN ?_ _ | refine blk_drew ?_ | refine blk_alloc ?_ _)); exact BK390.out) hb)
    have n5_ := Aside0.mk (below_step (by repeat (first | (with_reducible first | exact HB.out | apply below_alloc | apply pw_below_drewN | apply below_drew1 | refine below_set ?_ GE389.out | refine below_set ?_ GE390.out) | exact HB.out)) hb)
    clear HOa HOb BK389 BK390 HB;have HOa := n0_;have HOb := n1_;have HOc := n2_;have BK389 := n3_;have BK390 := n4_;have HB := n5_;clear n0_ n1_ n2_ n3_ n4_ n5_;(try clear hb);(try clear hb2);(try clear hk);(try clear hi);(try clear ho0)
    refine hK.out _ _ ⟨(blk_cell BK389.out 0).trans rfl, (blk_cell BK389.out 1).trans rfl, (blk_cell BK390.out 0).trans rfl, (blk_cell BK390.out 1).trans rfl⟩ (fun hHeld => ?_)
    clear hK K
    refine norm_ (a' := ?_) ?_ ?_
    rotate_left
    ·show Act.put _ (some 20) _ = _
     simp only [Act.put, List.setIfInBounds_toArray, List.set_cons_zero, List.set_cons_succ, i64_w, i32_w]
     rfl
    refine one_ (i := 5) (N := some 23) #[true, true, true, true, true, true, false, true, true, false, false, false, false, false, false] rfl rfl (one_of HT_.out (by kernel_rfl)) (by decide) (fun K hK => ?_)
    refine goes_ Try.func30 (by kernel_rfl) rfl #[.int .u64 (IntKind.u64.wrap (a1))] (by rfl) rfl rfl (by (try simp only [List.map_toArray, List.map_cons, List.map_nil]); first | done | rfl | (simp only [List.length_drop, List.length_take]; rfl)) ?_
    with_reducible refine (spec_WideUint.calls k (IntKind.u64.wrap (a1)) t395 t396 _ A5.out).mono ?_
    rintro e w102 ⟨v397, rfl, ho0, hb⟩
    refine ⟨_, rfl, ?_⟩
    have n0_ := Aside0.mk (Kd.V_below (by (with_reducible repeat (first | apply Kd.V_alloc | apply Kd.V_drewN | apply Kd.V_drew)); exact HOa.out) hb)
    have n1_ := Aside0.mk (Kd.V_below (by (with_reducible repeat (first | apply Kd.V_alloc | apply Kd.V_drewN | apply Kd.V_drew)); exact HOb.out) hb)
    have n2_ := Aside0.mk (Kd.V_below (by (with_reducible repeat (first | apply Kd.V_alloc | apply Kd.V_drewN | apply Kd.V_drew)); exact HOc.out) hb)
    have n3_ := Aside0.mk (Kd.V_lower (Kd.V_mono (ok' := fun k_ => k_ ≠ gb389 ∧ k_ ≠ gb390) ho0 (fun k_ hk_ => ⟨(Kd.freshB (g := gb389) (o := .cells #[.bool t381, .slice Ao96 t382.length co96] 27 (0, 0)) (by (with_reducible repeat (first | refine blk_drewN ?_ _ | refine blk_drew ?_ | refine blk_alloc ?_ _)); exact BK389.out) k_ hk_), (Kd.freshB (g := gb390) (o := .cells #[.bool t385, .slice Ao98 t386.length co98] 27 (0, 0)) (by (with_reducible repeat (first | refine blk_drewN ?_ _ | refine blk_drew ?_ | refine blk_alloc ?_ _)); exact BK390.out) k_ hk_)⟩)) (below_size (by repeat (first | (with_reducible first | exact HB.out | apply below_alloc | apply pw_below_drewN | apply below_drew1 | refine below_set ?_ GE389.out | refine below_set ?_ GE390.out) | exact HB.out))))
    have n4_ := Aside0.mk (blk_below (g := gb389) (o := .cells #[.bool t381, .slice Ao96 t382.length co96] 27 (0, 0)) (by (with_reducible repeat (first | refine blk_drewN ?_ _ | refine blk_drew ?_ | refine blk_alloc ?_ _)); exact BK389.out) hb)
    have n5_ := Aside0.mk (blk_below (g := gb390) (o := .cells #[.bool t385, .slice Ao98 t386.length co98] 27 (0, 0)) (by (with_reducible repeat (first | refine blk_drewN ?_ _ | refine blk_drew ?_ | refine blk_alloc ?_ _)); exact BK390.out) hb)
    have n6_ := Aside0.mk (below_step (by repeat (first | (with_reducible first | exact HB.out | apply below_alloc | apply pw_below_drewN | apply below_drew1 | refine below_set ?_ GE389.out | refine below_set ?_ GE390.out) | exact HB.out)) hb)
    clear HOa HOb HOc BK389 BK390 HB;have HOa := n0_;have HOb := n1_;have HOc := n2_;have HOd := n3_;have BK389 := n4_;have BK390 := n5_;have HB := n6_;clear n0_ n1_ n2_ n3_ n4_ n5_ n6_;(try clear hb);(try clear hb2);(try clear hk);(try clear hi);(try clear ho0)
    obtain ⟨Ao103, co103, eo103⟩ := Kd.V_slice HOc.out
    (first | subst eo103 | (injection eo103 with f1_ f2_ f3_; have f4_ := f1_.symm; have f5_ := f3_.symm; clear f1_ f2_ f3_; subst f4_; subst f5_))
    obtain ⟨Ao104, co104, eo104⟩ := Kd.V_slice HOd.out
    (first | subst eo104 | (injection eo104 with f1_ f2_ f3_; have f4_ := f1_.symm; have f5_ := f3_.symm; clear f1_ f2_ f3_; subst f4_; subst f5_))
    refine hK.out _ _ ⟨(blk_cell BK389.out 0).trans rfl, (blk_cell BK389.out 1).trans rfl, (blk_cell BK390.out 0).trans rfl, (blk_cell BK390.out 1).trans rfl⟩ (fun hHeld => ?_)
    clear hK K
    refine norm_ (a' := ?_) ?_ ?_
    rotate_left
    ·show Act.put _ (some 23) _ = _
     simp only [Act.put, List.setIfInBounds_toArray, List.set_cons_zero, List.set_cons_succ, i64_w, i32_w]
     rfl
    refine one_ (i := 6) (N := some 24) #[true, true, true, true, true, true, true, true, true, false, false, false, false, false, false] rfl rfl (one_of HT_.out (by kernel_rfl)) (by decide) (fun K hK => ?_)
    refine goes_ Try.func29 (by kernel_rfl) rfl #[.agg #[.bool t391, .slice Ao103 t392.length co103], .agg #[.bool t395, .slice Ao104 t396.length co104]] (by rfl) rfl rfl (by (try simp only [List.map_toArray, List.map_cons, List.map_nil]); first | done | rfl | (simp only [List.length_drop, List.length_take]; rfl)) ?_
    with_reducible refine (spec_WideMul.calls k t391 _ _ t392 t395 _ _ t396 t399 t400 _ ?side1 ?side2 ?side3 ?side4 A6.out).mono ?_
    (case side1 => repeat (first | exact (Kd.V_reads' HOc.out).2.2 | (with_reducible refine Kd.C_alloc ?_ _) | (with_reducible refine Kd.C_drewN ?_ _) | (with_reducible refine Kd.C_drew ?_)))
    (case side2 => exact (Kd.V_reads' HOc.out).2.1)
    (case side3 => repeat (first | exact (Kd.V_reads' HOd.out).2.2 | (with_reducible refine Kd.C_alloc ?_ _) | (with_reducible refine Kd.C_drewN ?_ _) | (with_reducible refine Kd.C_drew ?_)))
    (case side4 => exact (Kd.V_reads' HOd.out).2.1)
    rintro e w105 ⟨v401, rfl, ho0, hb⟩
    refine ⟨_, rfl, ?_⟩
    have n0_ := Aside0.mk (Kd.V_below (by (with_reducible repeat (first | apply Kd.V_alloc | apply Kd.V_drewN | apply Kd.V_drew)); exact HOa.out) hb)
    have n1_ := Aside0.mk (Kd.V_below (by (with_reducible repeat (first | apply Kd.V_alloc | apply Kd.V_drewN | apply Kd.V_drew)); exact HOb.out) hb)
    have n2_ := Aside0.mk (Kd.V_below (by (with_reducible repeat (first | apply Kd.V_alloc | apply Kd.V_drewN | apply Kd.V_drew)); exact HOc.out) hb)
    have n3_ := Aside0.mk (Kd.V_below (by (with_reducible repeat (first | apply Kd.V_alloc | apply Kd.V_drewN | apply Kd.V_drew)); exact HOd.out) hb)
    have n4_ := Aside0.mk (Kd.V_lower (Kd.V_mono (ok' := fun k_ => k_ ≠ gb389 ∧ k_ ≠ gb390) ho0 (fun k_ hk_ => ⟨(Kd.freshB (g := gb389) (o := .cells #[.bool t381, .slice Ao96 t382.length co96] 27 (0, 0)) (by (with_reducible repeat (first | refine blk_drewN ?_ _ | refine blk_drew ?_ | refine blk_alloc ?_ _)); exact BK389.out) k_ hk_), (Kd.freshB (g := gb390) (o := .cells #[.bool t385, .slice Ao98 t386.length co98] 27 (0, 0)) (by (with_reducible repeat (first | refine blk_drewN ?_ _ | refine blk_drew ?_ | refine blk_alloc ?_ _)); exact BK390.out) k_ hk_)⟩)) (below_size (by repeat (first | (with_reducible first | exact HB.out | apply below_alloc | apply pw_below_drewN | apply below_drew1 | refine below_set ?_ GE389.out | refine below_set ?_ GE390.out) | exact HB.out))))
    have n5_ := Aside0.mk (blk_below (g := gb389) (o := .cells #[.bool t381, .slice Ao96 t382.length co96] 27 (0, 0)) (by (with_reducible repeat (first | refine blk_drewN ?_ _ | refine blk_drew ?_ | refine blk_alloc ?_ _)); exact BK389.out) hb)
    have n6_ := Aside0.mk (blk_below (g := gb390) (o := .cells #[.bool t385, .slice Ao98 t386.length co98] 27 (0, 0)) (by (with_reducible repeat (first | refine blk_drewN ?_ _ | refine blk_drew ?_ | refine blk_alloc ?_ _)); exact BK390.out) hb)
    have n7_ := Aside0.mk (below_step (by repeat (first | (with_reducible first | exact HB.out | apply below_alloc | apply pw_below_drewN | apply below_drew1 | refine below_set ?_ GE389.out | refine below_set ?_ GE390.out) | exact HB.out)) hb)
    clear HOa HOb HOc HOd BK389 BK390 HB;have HOa := n0_;have HOb := n1_;have HOc := n2_;have HOd := n3_;have HO402 := n4_;have BK389 := n5_;have BK390 := n6_;have HB := n7_;clear n0_ n1_ n2_ n3_ n4_ n5_ n6_ n7_;(try clear hb);(try clear hb2);(try clear hk);(try clear hi);(try clear ho0)
    obtain ⟨Ao106, co106, eo106⟩ := Kd.V_slice HO402.out
    (first | subst eo106 | (injection eo106 with f1_ f2_ f3_; have f4_ := f1_.symm; have f5_ := f3_.symm; clear f1_ f2_ f3_; subst f4_; subst f5_))
    refine hK.out _ _ ⟨(blk_cell BK389.out 0).trans rfl, (blk_cell BK389.out 1).trans rfl, (blk_cell BK390.out 0).trans rfl, (blk_cell BK390.out 1).trans rfl⟩ (fun hHeld => ?_)
    clear hK K
    refine norm_ (a' := ?_) ?_ ?_
    rotate_left
    ·show Act.put _ (some 24) _ = _
     simp only [Act.put, List.setIfInBounds_toArray, List.set_cons_zero, List.set_cons_succ, i64_w, i32_w]
     rfl
    refine one_ (i := 9) (N := some 27) #[true, true, true, true, true, true, true, true, true, true, false, false, false, false, false] rfl rfl (one_of HT_.out (by kernel_rfl)) (by decide) (fun K hK => ?_)
    refine goes_ Try.func26 (by kernel_rfl) rfl #[.agg #[.bool t399, .slice Ao106 t400.length co106], .agg #[.bool t381, .slice Ao96 t382.length co96], .agg #[.bool t385, .slice Ao98 t386.length co98]] (by rfl) rfl rfl (by (try simp only [List.map_toArray, List.map_cons, List.map_nil]); first | done | rfl | (simp only [List.length_drop, List.length_take]; rfl)) ?_
    with_reducible refine (laws_fitted.calls k t399 _ _ t400 t381 _ _ t382 t385 _ _ t386 t403 false _ ?side1 ?side2 ?side3 ?side4 ?side5 ?side6 A7.out).mono ?_
    (case side1 => repeat (first | exact (Kd.V_reads' HO402.out).2.2 | (with_reducible refine Kd.C_alloc ?_ _) | (with_reducible refine Kd.C_drewN ?_ _) | (with_reducible refine Kd.C_drew ?_)))
    (case side2 => exact (Kd.V_reads' HO402.out).2.1)
    (case side3 => repeat (first | exact (Kd.V_reads' HOa.out).2.2 | (with_reducible refine Kd.C_alloc ?_ _) | (with_reducible refine Kd.C_drewN ?_ _) | (with_reducible refine Kd.C_drew ?_)))
    (case side4 => exact (Kd.V_reads' HOa.out).2.1)
    (case side5 => repeat (first | exact (Kd.V_reads' HOb.out).2.2 | (with_reducible refine Kd.C_alloc ?_ _) | (with_reducible refine Kd.C_drewN ?_ _) | (with_reducible refine Kd.C_drew ?_)))
    (case side6 => exact (Kd.V_reads' HOb.out).2.1)
    rintro e w107 ⟨rfl, hb⟩
    refine ⟨_, rfl, ?_⟩
    have n0_ := Aside0.mk (Kd.V_below (by (with_reducible repeat (first | apply Kd.V_alloc | apply Kd.V_drewN | apply Kd.V_drew)); exact HOa.out) hb)
    have n1_ := Aside0.mk (Kd.V_below (by (with_reducible repeat (first | apply Kd.V_alloc | apply Kd.V_drewN | apply Kd.V_drew)); exact HOb.out) hb)
    have n2_ := Aside0.mk (Kd.V_below (by (with_reducible repeat (first | apply Kd.V_alloc | apply Kd.V_drewN | apply Kd.V_drew)); exact HOc.out) hb)
    have n3_ := Aside0.mk (Kd.V_below (by (with_reducible repeat (first | apply Kd.V_alloc | apply Kd.V_drewN | apply Kd.V_drew)); exact HOd.out) hb)
    have n4_ := Aside0.mk (Kd.V_below (by (with_reducible repeat (first | apply Kd.V_alloc | apply Kd.V_drewN | apply Kd.V_drew)); exact HO402.out) hb)
    have n5_ := Aside0.mk (blk_below (g := gb389) (o := .cells #[.bool t381, .slice Ao96 t382.length co96] 27 (0, 0)) (by (with_reducible repeat (first | refine blk_drewN ?_ _ | refine blk_drew ?_ | refine blk_alloc ?_ _)); exact BK389.out) hb)
    have n6_ := Aside0.mk (blk_below (g := gb390) (o := .cells #[.bool t385, .slice Ao98 t386.length co98] 27 (0, 0)) (by (with_reducible repeat (first | refine blk_drewN ?_ _ | refine blk_drew ?_ | refine blk_alloc ?_ _)); exact BK390.out) hb)
    have n7_ := Aside0.mk (below_step (by repeat (first | (with_reducible first | exact HB.out | apply below_alloc | apply pw_below_drewN | apply below_drew1 | refine below_set ?_ GE389.out | refine below_set ?_ GE390.out) | exact HB.out)) hb)
    clear HOa HOb HOc HOd HO402 BK389 BK390 HB;have HOa := n0_;have HOb := n1_;have HOc := n2_;have HOd := n3_;have HO402 := n4_;have BK389 := n5_;have BK390 := n6_;have HB := n7_;clear n0_ n1_ n2_ n3_ n4_ n5_ n6_ n7_;(try clear hb);(try clear hb2);(try clear hk);(try clear hi)
    refine hK.out _ _ ⟨(blk_cell BK389.out 0).trans rfl, (blk_cell BK389.out 1).trans rfl, (blk_cell BK390.out 0).trans rfl, (blk_cell BK390.out 1).trans rfl⟩ (fun hHeld => ?_)
    clear hK K
    refine norm_ (a' := ?_) ?_ ?_
    rotate_left
    ·show Act.put _ (some 27) _ = _
     simp only [Act.put, List.setIfInBounds_toArray, List.set_cons_zero, List.set_cons_succ, i64_w, i32_w]
     rfl
    refine pure_ (i := 10) (N := some 17) (v := ?_) (a' := ?_) #[true, true, true, true, true, true, true, true, true, true, true, false, false, false, false] rfl rfl (any_of HT_.out (by kernel_rfl)) (fun _ _ _ h => h) (Or.inl ⟨by rfl, ?_⟩) ?_ ?_
    rotate_left
    ·intro w'
     go_simp
     with_reducible rfl
    rotate_left
    ·simp only [Act.put, List.setIfInBounds_toArray, List.set_cons_zero, List.set_cons_succ, i64_w, i32_w]
     rfl
    refine pure_ (i := 11) (N := some 28) (v := ?_) (a' := ?_) #[true, true, true, true, true, true, true, true, true, true, true, true, false, false, false] rfl rfl (any_of HT_.out (by kernel_rfl)) (fun _ _ _ h => h) (Or.inl ⟨by rfl, ?_⟩) ?_ ?_
    rotate_left
    ·intro w'
     go_simp
     with_reducible rfl
    rotate_left
    ·simp only [Act.put, List.setIfInBounds_toArray, List.set_cons_zero, List.set_cons_succ, i64_w, i32_w]
     rfl
    refine pure_ (i := 12) (N := some 29) (v := ?_) (a' := ?_) #[true, true, true, true, true, true, true, true, true, true, true, true, true, false, false] rfl rfl (any_of HT_.out (by kernel_rfl)) (fun _ _ _ h => h) (Or.inl ⟨by rfl, ?_⟩) ?_ ?_
    rotate_left
    ·intro w'
     go_simp
     with_reducible rfl
    rotate_left
    ·simp only [Act.put, List.setIfInBounds_toArray, List.set_cons_zero, List.set_cons_succ, i64_w, i32_w]
     rfl
    refine pure_ (i := 13) (N := some 7) (v := ?_) (a' := ?_) #[true, true, true, true, true, true, true, true, true, true, true, true, true, true, false] rfl rfl (any_of HT_.out (by kernel_rfl)) (fun _ _ _ h => h) (Or.inl ⟨by rfl, ?_⟩) ?_ ?_
    rotate_left
    ·intro w'
     go_simp
     with_reducible rfl
    rotate_left
    ·simp only [Act.put, List.setIfInBounds_toArray, List.set_cons_zero, List.set_cons_succ, i64_w, i32_w]
     rfl
    refine pure_ (i := 14) (N := some 8) (v := ?_) (a' := ?_) #[true, true, true, true, true, true, true, true, true, true, true, true, true, true, true] rfl rfl (any_of HT_.out (by kernel_rfl)) (fun _ _ _ h => h) (Or.inl ⟨by rfl, ?_⟩) ?_ ?_
    rotate_left
    ·intro w'
     go_simp
     with_reducible rfl
    rotate_left
    ·simp only [Act.put, List.setIfInBounds_toArray, List.set_cons_zero, List.set_cons_succ, i64_w, i32_w]
     rfl
    refine done_ (done_of HT_.out (by kernel_rfl)) ?_
    try go_wp2_with (first | ((with_reducible refine gate_callee (f := 31) rfl ?_); refine goesL_ (some 33) rfl rfl Try.func31 (by kernel_rfl) rfl #[.int .u16 a0, .int .u16 a1] rfl (by (try simp only [List.map_toArray, List.map_cons, List.map_nil]); first | done | rfl | (simp only [List.length_drop, List.length_take]; rfl)) ?_; (with_reducible refine (impl_MulUint16.calls a0 a1 t405 t406 _ A8.out).mono ?_); rintro e w108 ⟨rfl, hb⟩; refine ⟨_, rfl, ?_⟩; have n0_ := Aside0.mk (Kd.V_below (by (with_reducible repeat (first | apply Kd.V_alloc | apply Kd.V_drewN | apply Kd.V_drew)); exact HOa.out) hb); have n1_ := Aside0.mk (Kd.V_below (by (with_reducible repeat (first | apply Kd.V_alloc | apply Kd.V_drewN | apply Kd.V_drew)); exact HOb.out) hb); have n2_ := Aside0.mk (Kd.V_below (by (with_reducible repeat (first | apply Kd.V_alloc | apply Kd.V_drewN | apply Kd.V_drew)); exact HOc.out) hb); have n3_ := Aside0.mk (Kd.V_below (by (with_reducible repeat (first | apply Kd.V_alloc | apply Kd.V_drewN | apply Kd.V_drew)); exact HOd.out) hb); have n4_ := Aside0.mk (Kd.V_below (by (with_reducible repeat (first | apply Kd.V_alloc | apply Kd.V_drewN | apply Kd.V_drew)); exact HO402.out) hb); have n5_ := Aside0.mk (blk_below (g := gb389) (o := .cells #[.bool t381, .slice Ao96 t382.length co96] 27 (0, 0)) (by (with_reducible repeat (first | refine blk_drewN ?_ _ | refine blk_drew ?_ | refine blk_alloc ?_ _)); exact BK389.out) hb); have n6_ := Aside0.mk (blk_below (g := gb390) (o := .cells #[.bool t385, .slice Ao98 t386.length co98] 27 (0, 0)) (by (with_reducible repeat (first | refine blk_drewN ?_ _ | refine blk_drew ?_ | refine blk_alloc ?_ _)); exact BK390.out) hb); have n7_ := Aside0.mk (below_step (by repeat (first | (with_reducible first | exact HB.out | apply below_alloc | apply pw_below_drewN | apply below_drew1 | refine below_set ?_ GE389.out | refine below_set ?_ GE390.out) | exact HB.out)) hb); clear HOa; clear HOb; clear HOc; clear HOd; clear HO402; clear BK389; clear BK390; clear HB; have HOa := n0_; have HOb := n1_; have HOc := n2_; have HOd := n3_; have HO402 := n4_; have BK389 := n5_; have BK390 := n6_; have HB := n7_; clear n0_ n1_ n2_ n3_ n4_ n5_ n6_ n7_; (try clear hb); (try clear hb2); (try clear hk); (try clear hi)) | ((with_reducible refine gate_callee (f := 31) rfl ?_); refine goesL_ (some 37) rfl rfl Try.func31 (by kernel_rfl) rfl #[.int .u16 2, .int .u16 3] rfl (by (try simp only [List.map_toArray, List.map_cons, List.map_nil]); first | done | rfl | (simp only [List.length_drop, List.length_take]; rfl)) ?_; (with_reducible refine (impl_MulUint16.calls 2 3 t407 false _ A9.out).mono ?_); rintro e w109 ⟨rfl, hb⟩; refine ⟨_, rfl, ?_⟩; have n0_ := Aside0.mk (Kd.V_below (by (with_reducible repeat (first | apply Kd.V_alloc | apply Kd.V_drewN | apply Kd.V_drew)); exact HOa.out) hb); have n1_ := Aside0.mk (Kd.V_below (by (with_reducible repeat (first | apply Kd.V_alloc | apply Kd.V_drewN | apply Kd.V_drew)); exact HOb.out) hb); have n2_ := Aside0.mk (Kd.V_below (by (with_reducible repeat (first | apply Kd.V_alloc | apply Kd.V_drewN | apply Kd.V_drew)); exact HOc.out) hb); have n3_ := Aside0.mk (Kd.V_below (by (with_reducible repeat (first | apply Kd.V_alloc | apply Kd.V_drewN | apply Kd.V_drew)); exact HOd.out) hb); have n4_ := Aside0.mk (Kd.V_below (by (with_reducible repeat (first | apply Kd.V_alloc | apply Kd.V_drewN | apply Kd.V_drew)); exact HO402.out) hb); have n5_ := Aside0.mk (blk_below (g := gb389) (o := .cells #[.bool t381, .slice Ao96 t382.length co96] 27 (0, 0)) (by (with_reducible repeat (first | refine blk_drewN ?_ _ | refine blk_drew ?_ | refine blk_alloc ?_ _)); exact BK389.out) hb); have n6_ := Aside0.mk (blk_below (g := gb390) (o := .cells #[.bool t385, .slice Ao98 t386.length co98] 27 (0, 0)) (by (with_reducible repeat (first | refine blk_drewN ?_ _ | refine blk_drew ?_ | refine blk_alloc ?_ _)); exact BK390.out) hb); have n7_ := Aside0.mk (below_step (by repeat (first | (with_reducible first | exact HB.out | apply below_alloc | apply pw_below_drewN | apply below_drew1 | refine below_set ?_ GE389.out | refine below_set ?_ GE390.out) | exact HB.out)) hb); clear HOa; clear HOb; clear HOc; clear HOd; clear HO402; clear BK389; clear BK390; clear HB; have HOa := n0_; have HOb := n1_; have HOc := n2_; have HOd := n3_; have HO402 := n4_; have BK389 := n5_; have BK390 := n6_; have HB := n7_; clear n0_ n1_ n2_ n3_ n4_ n5_ n6_ n7_; (try clear hb); (try clear hb2); (try clear hk); (try clear hi)))
    go_ret
    exact ⟨by first | rfl | (simp [errW_none, errW_some] <;> rfl) | (simp [*, errW_none, errW_some] <;> rfl), by repeat (first | (with_reducible first | exact HB.out | apply below_alloc | apply pw_below_drewN | apply below_drew1 | refine below_set ?_ GE389.out | refine below_set ?_ GE390.out) | exact HB.out)⟩
 ·rw [if_neg c10] at H
  have c10b0 : (t406 == t404) = false := by simpa using c10
  (try (have c10b1 : decide (t406 = t404) = false := by simpa using c10))
  (try (have c10b2 : (t406 == t404) = false := by simpa using c10))
  (try (have c10b3 : ¬ (t406 = t404) := by simpa using c10))
  clear c10
  obtain rfl := Option.some.inj H
  go_enter Try.func12, Try.ntmps12
  try go_wp2_with (first | ((with_reducible refine gate_callee (f := 25) rfl ?_); refine goesL_ (some 14) rfl rfl Try.func25 (by kernel_rfl) rfl #[.int .i64 16, .bool false] rfl (by (try simp only [List.map_toArray, List.map_cons, List.map_nil]); first | done | rfl | (simp only [List.length_drop, List.length_take]; rfl)) ?_; (with_reducible refine (laws_bounds.calls k 16 false t381 t382 t385 t386 _ A3.out).mono ?_); rintro e w110 ⟨v383, v387, rfl, ho0, ho1, hb⟩; refine ⟨_, rfl, ?_⟩; have n0_ := Aside0.mk (Kd.V_lower (Kd.V_mono (ok' := fun k_ => True) ho0 (fun k_ hk_ => trivial)) (below_size (by repeat (first | (with_reducible first | exact HB.out | apply below_alloc | apply pw_below_drewN | apply below_drew1) | exact HB.out)))); have n1_ := Aside0.mk (Kd.V_lower (Kd.V_mono (ok' := fun k_ => True) ho1 (fun k_ hk_ => trivial)) (below_size (by repeat (first | (with_reducible first | exact HB.out | apply below_alloc | apply pw_below_drewN | apply below_drew1) | exact HB.out)))); have n2_ := Aside0.mk (below_step (by repeat (first | (with_reducible first | exact HB.out | apply below_alloc | apply pw_below_drewN | apply below_drew1) | exact HB.out)) hb); clear HB; have HOa := n0_; have HOb := n1_; have HB := n2_; clear n0_ n1_ n2_; (try clear hb); (try clear hb2); (try clear hk); (try clear hi); (try clear ho0); (try clear ho1)) | ((with_reducible refine gate_dst (N := 5) rfl ?_); refine box_event ?hg (N := 5) ?hd (cs := #[.bool false, .slice none 0 0]) (t := 27) ?hr ?_; (case hd => rfl); (case hg => rfl); (case hr => first | (go_simp; done) | (go_simp; rfl)); intro gb389 hg w111 hbox hb; have n0_ := Aside0.mk (Kd.V_below (Kd.V_elderB (by (with_reducible repeat (first | apply Kd.V_alloc | apply Kd.V_drewN | apply Kd.V_drew)); exact HOa.out) gb389 (Nat.le_of_eq hg.symm)) hb); have n1_ := Aside0.mk (Kd.V_below (Kd.V_elderB (by (with_reducible repeat (first | apply Kd.V_alloc | apply Kd.V_drewN | apply Kd.V_drew)); exact HOb.out) gb389 (Nat.le_of_eq hg.symm)) hb); have n2_ := Aside0.mk (below_step (by repeat (first | (with_reducible first | exact HB.out | apply below_alloc | apply pw_below_drewN | apply below_drew1) | exact HB.out)) hb); have n3_ := Aside0.mk (hbox); have n4_ := Aside0.mk ((by rw [hg]; exact (below_size (by repeat (first | (with_reducible first | exact HB.out | apply below_alloc | apply pw_below_drewN | apply below_drew1) | exact HB.out))) : w.heap.size ≤ gb389)); have n5_ := Aside0.mk ((by rw [hg]; exact (below_size (by repeat (first | (with_reducible first | exact HB.out | apply below_alloc | apply pw_below_drewN | apply below_drew1) | exact HB.out))) : w.heap.size ≤ gb389)); clear HOa; clear HOb; clear HB; have HOa := n0_; have HOb := n1_; have HB := n2_; have BK389 := n3_; have GW389 := n4_; have GE389 := n5_; clear n0_ n1_ n2_ n3_ n4_ n5_; clear hb hbox hg) | ((with_reducible refine gate_dst (N := 6) rfl ?_); refine box_event ?hg (N := 6) ?hd (cs := #[.bool false, .slice none 0 0]) (t := 27) ?hr ?_; (case hd => rfl); (case hg => rfl); (case hr => first | (go_simp; done) | (go_simp; rfl)); intro gb390 hg w112 hbox hb; have n0_ := Aside0.mk (Kd.V_below (Kd.V_elderB (by (with_reducible repeat (first | apply Kd.V_alloc | apply Kd.V_drewN | apply Kd.V_drew)); exact HOa.out) gb390 (Nat.le_of_eq hg.symm)) hb); have n1_ := Aside0.mk (Kd.V_below (Kd.V_elderB (by (with_reducible repeat (first | apply Kd.V_alloc | apply Kd.V_drewN | apply Kd.V_drew)); exact HOb.out) gb390 (Nat.le_of_eq hg.symm)) hb); have n2_ := Aside0.mk (blk_below (g := gb389) (o := .cells #[.bool false, .slice none 0 0] 27 (0, 0)) (by (with_reducible repeat (first | refine blk_drewN ?_ _ | refine blk_drew ?_ | refine blk_alloc ?_ _)); exact BK389.out) hb); have n3_ := Aside0.mk (below_step (by repeat (first | (with_reducible first | exact HB.out | apply below_alloc | apply pw_below_drewN | apply below_drew1 | refine below_set ?_ GE389.out) | exact HB.out)) hb); have n4_ := Aside0.mk (hbox); have n5_ := Aside0.mk ((by rw [hg]; exact (below_size (by repeat (first | (with_reducible first | exact HB.out | apply below_alloc | apply pw_below_drewN | apply below_drew1 | refine below_set ?_ GE389.out) | exact HB.out))) : w.heap.size ≤ gb390)); have n6_ := Aside0.mk ((by rw [hg]; exact (below_size (by repeat (first | (with_reducible first | exact HB.out | apply below_alloc | apply pw_below_drewN | apply below_drew1 | refine below_set ?_ GE389.out) | exact HB.out))) : w.heap.size ≤ gb390)); have n7_ := Aside0.mk ((by rw [hg]; exact Nat.ne_of_lt (blk_lt (g := gb389) (o := .cells #[.bool false, .slice none 0 0] 27 (0, 0)) (by (with_reducible repeat (first | refine blk_drewN ?_ _ | refine blk_drew ?_ | refine blk_alloc ?_ _)); exact BK389.out)) : gb389 ≠ gb390)); have n8_ := Aside0.mk ((by rw [hg]; exact Nat.ne_of_gt (blk_lt (g := gb389) (o := .cells #[.bool false, .slice none 0 0] 27 (0, 0)) (by (with_reducible repeat (first | refine blk_drewN ?_ _ | refine blk_drew ?_ | refine blk_alloc ?_ _)); exact BK389.out)) : gb390 ≠ gb389)); clear HOa; clear HOb; clear BK389; clear HB; have HOa := n0_; have HOb := n1_; have BK389 := n2_; have HB := n3_; have BK390 := n4_; have GW390 := n5_; have GE390 := n6_; have NB389_390 := n7_; have NB390_389 := n8_; clear n0_ n1_ n2_ n3_ n4_ n5_ n6_ n7_ n8_; clear hb hbox hg; have hnb113 := NB389_390.out; have hnc113 := NB390_389.out; have hcz114_0 : w112.cell? ⟨gb389, 0, none⟩ = some (.bool false) := (blk_cell BK389.out 0).trans rfl; have hcz114_1 : w112.cell? ⟨gb389, 1, none⟩ = some (.slice none 0 0) := (blk_cell BK389.out 1).trans rfl; have hfz114_0 := blk_frozen BK389.out 0; have hfz114_1 := blk_frozen BK389.out 1; obtain ⟨Ao115, co115, eo115⟩ := Kd.V_slice HOa.out; subst eo115; have hcz116_0 : w112.cell? ⟨gb390, 0, none⟩ = some (.bool false) := (blk_cell BK390.out 0).trans rfl; have hcz116_1 : w112.cell? ⟨gb390, 1, none⟩ = some (.slice none 0 0) := (blk_cell BK390.out 1).trans rfl; have hfz116_0 := blk_frozen BK390.out 0; have hfz116_1 := blk_frozen BK390.out 1; obtain ⟨Ao117, co117, eo117⟩ := Kd.V_slice HOb.out; subst eo117))
  have n0_ : Aside0 (Kd.V (Kd.int .u32) 44 ((((w112.setCell ⟨gb389, 0, none⟩ (.bool t381)).setCell ⟨gb389, 1, none⟩ (.slice Ao115 t382.length co115)).setCell ⟨gb390, 0, none⟩ (.bool t385)).setCell ⟨gb390, 1, none⟩ (.slice Ao117 t386.length co117)) w.heap.size (fun k_ => k_ ≠ gb389 ∧ k_ ≠ gb390) (.slice Ao115 t382.length co115) t382) := ⟨by (with_reducible repeat (first | apply Kd.V_alloc | apply Kd.V_drewN | apply Kd.V_drew)); exact Kd.V_mono (Kd.V_far (p := ⟨gb390, 1, none⟩) (Kd.V_far (p := ⟨gb390, 0, none⟩) (Kd.V_far (p := ⟨gb389, 1, none⟩) (Kd.V_far (p := ⟨gb389, 0, none⟩) (Kd.V_mono (Kd.V_mono HOa.out (fun k_ hk => (⟨hk, hk.1.2⟩ : _ ∧ k_ ≠ gb389))) (fun k_ hk => (⟨hk, hk.1.2⟩ : _ ∧ k_ ≠ gb390))) (fun _ hk => hk.1.2) (.bool t381)) (fun _ hk => hk.1.2) (.slice Ao115 t382.length co115)) (fun _ hk => hk.2) (.bool t385)) (fun _ hk => hk.2) (.slice Ao117 t386.length co117)) (fun _ hk => ⟨hk.1.1.1.2, hk.1.1.2⟩)⟩
  have n1_ : Aside0 (Kd.V (Kd.int .u32) 44 ((((w112.setCell ⟨gb389, 0, none⟩ (.bool t381)).setCell ⟨gb389, 1, none⟩ (.slice Ao115 t382.length co115)).setCell ⟨gb390, 0, none⟩ (.bool t385)).setCell ⟨gb390, 1, none⟩ (.slice Ao117 t386.length co117)) w.heap.size (fun k_ => k_ ≠ gb389 ∧ k_ ≠ gb390) (.slice Ao117 t386.length co117) t386) := ⟨by (with_reducible repeat (first | apply Kd.V_alloc | apply Kd.V_drewN | apply Kd.V_drew)); exact Kd.V_mono (Kd.V_far (p := ⟨gb390, 1, none⟩) (Kd.V_far (p := ⟨gb390, 0, none⟩) (Kd.V_far (p := ⟨gb389, 1, none⟩) (Kd.V_far (p := ⟨gb389, 0, none⟩) (Kd.V_mono (Kd.V_mono HOb.out (fun k_ hk => (⟨hk, hk.1.2⟩ : _ ∧ k_ ≠ gb389))) (fun k_ hk => (⟨hk, hk.1.2⟩ : _ ∧ k_ ≠ gb390))) (fun _ hk => hk.1.2) (.bool t381)) (fun _ hk => hk.1.2) (.slice Ao115 t382.length co115)) (fun _ hk => hk.2) (.bool t385)) (fun _ hk => hk.2) (.slice Ao117 t386.length co117)) (fun _ hk => ⟨hk.1.1.1.2, hk.1.1.2⟩)⟩
  have n2_ : Aside0 (((((w112.setCell ⟨gb389, 0, none⟩ (.bool t381)).setCell ⟨gb389, 1, none⟩ (.slice Ao115 t382.length co115)).setCell ⟨gb390, 0, none⟩ (.bool t385)).setCell ⟨gb390, 1, none⟩ (.slice Ao117 t386.length co117)).heap[gb389]? = some (.cells #[.bool t381, .slice Ao115 t382.length co115] 27 (0, 0))) := ⟨by (with_reducible repeat (first | refine blk_drewN ?_ _ | refine blk_drew ?_ | refine blk_alloc ?_ _)); refine blk_far ?_ NB389_390.out _; (with_reducible repeat (first | refine blk_drewN ?_ _ | refine blk_drew ?_ | refine blk_alloc ?_ _)); refine blk_far ?_ NB389_390.out _; (with_reducible repeat (first | refine blk_drewN ?_ _ | refine blk_drew ?_ | refine blk_alloc ?_ _)); refine blk_put (cs := #[.bool t381, .slice none 0 0]) ?_ 1 _ rfl; (with_reducible repeat (first | refine blk_drewN ?_ _ | refine blk_drew ?_ | refine blk_alloc ?_ _)); refine blk_put (cs := #[.bool false, .slice none 0 0]) ?_ 0 _ rfl; (with_reducible repeat (first | refine blk_drewN ?_ _ | refine blk_drew ?_ | refine blk_alloc ?_ _)); exact BK389.out⟩
  have n3_ : Aside0 (((((w112.setCell ⟨gb389, 0, none⟩ (.bool t381)).setCell ⟨gb389, 1, none⟩ (.slice Ao115 t382.length co115)).setCell ⟨gb390, 0, none⟩ (.bool t385)).setCell ⟨gb390, 1, none⟩ (.slice Ao117 t386.length co117)).heap[gb390]? = some (.cells #[.bool t385, .slice Ao117 t386.length co117] 27 (0, 0))) := ⟨by (with_reducible repeat (first | refine blk_drewN ?_ _ | refine blk_drew ?_ | refine blk_alloc ?_ _)); refine blk_put (cs := #[.bool t385, .slice none 0 0]) ?_ 1 _ rfl; (with_reducible repeat (first | refine blk_drewN ?_ _ | refine blk_drew ?_ | refine blk_alloc ?_ _)); refine blk_put (cs := #[.bool false, .slice none 0 0]) ?_ 0 _ rfl; (with_reducible repeat (first | refine blk_drewN ?_ _ | refine blk_drew ?_ | refine blk_alloc ?_ _)); refine blk_far ?_ NB390_389.out _; (with_reducible repeat (first | refine blk_drewN ?_ _ | refine blk_drew ?_ | refine blk_alloc ?_ _)); refine blk_far ?_ NB390_389.out _; (with_reducible repeat (first | refine blk_drewN ?_ _ | refine blk_drew ?_ | refine blk_alloc ?_ _)); exact BK390.out⟩
  have n4_ : Aside0 (Below w.heap.size w ((((w112.setCell ⟨gb389, 0, none⟩ (.bool t381)).setCell ⟨gb389, 1, none⟩ (.slice Ao115 t382.length co115)).setCell ⟨gb390, 0, none⟩ (.bool t385)).setCell ⟨gb390, 1, none⟩ (.slice Ao117 t386.length co117))) := ⟨by repeat (first | (with_reducible first | exact HB.out | apply below_alloc | apply pw_below_drewN | apply below_drew1 | refine below_set ?_ GE389.out | refine below_set ?_ GE390.out) | exact HB.out)⟩
  (try clear HOa);(try clear HOb);(try clear BK389);(try clear BK390);(try clear HB)
  generalize ((((w112.setCell ⟨gb389, 0, none⟩ (.bool t381)).setCell ⟨gb389, 1, none⟩ (.slice Ao115 t382.length co115)).setCell ⟨gb390, 0, none⟩ (.bool t385)).setCell ⟨gb390, 1, none⟩ (.slice Ao117 t386.length co117)) = w118 at n0_ n1_ n2_ n3_ n4_ ⊢
  have HOa := n0_;have HOb := n1_;have BK389 := n2_;have BK390 := n3_;have HB := n4_;clear n0_ n1_ n2_ n3_ n4_
  have n0_ := Aside0.mk (Kd.V_drew HOa.out)
  have n1_ := Aside0.mk (Kd.V_drew HOb.out)
  have n2_ := Aside0.mk (blk_drew BK389.out)
  have n3_ := Aside0.mk (blk_drew BK390.out)
  have n4_ := Aside0.mk (below_drew1 HB.out)
  clear HOa HOb BK389 BK390 HB;have HOa := n0_;have HOb := n1_;have BK389 := n2_;have BK390 := n3_;have HB := n4_;clear n0_ n1_ n2_ n3_ n4_
  refine start_ (n := 15) (S := fun w' => w'.cell? ⟨gb389, 0, none⟩ = some (.bool t381) ∧ w'.cell? ⟨gb389, 1, none⟩ = some (.slice Ao115 t382.length co115) ∧ w'.cell? ⟨gb390, 0, none⟩ = some (.bool t385) ∧ w'.cell? ⟨gb390, 1, none⟩ = some (.slice Ao117 t386.length co117)) (ds := []) #[false, false, false, false, false, false, false, false, false, false, false, false, false, false, false] (by kernel_rfl) rfl rfl ⟨(blk_cell BK389.out 0).trans rfl, (blk_cell BK389.out 1).trans rfl, (blk_cell BK390.out 0).trans rfl, (blk_cell BK390.out 1).trans rfl⟩ (fun hHeld => ?_); refine with_tabW laws_FnMulUint16.tab2 laws_FnMulUint16.bits2 (fun HT_ HW_ => ?_)
  generalize w118.drew = w119 at HOa HOb BK389 BK390 HB hHeld ⊢
  refine pure_ (i := 0) (N := some 18) (v := ?_) (a' := ?_) #[true, false, false, false, false, false, false, false, false, false, false, false, false, false, false] rfl rfl (any_of HT_.out (by kernel_rfl)) (fun _ _ _ h => h) (Or.inl ⟨by rfl, ?_⟩) ?_ ?_
  rotate_left
  ·intro w'
   go_simp
   with_reducible rfl
  rotate_left
  ·simp only [Act.put, List.setIfInBounds_toArray, List.set_cons_zero, List.set_cons_succ, i64_w, i32_w]
   rfl
  refine pure_ (i := 1) (N := some 19) (v := ?_) (a' := ?_) #[true, true, false, false, false, false, false, false, false, false, false, false, false, false, false] rfl rfl (any_of HT_.out (by kernel_rfl)) (fun _ _ _ h => h) (Or.inl ⟨by rfl, ?_⟩) ?_ ?_
  rotate_left
  ·intro w'
   go_simp
   with_reducible rfl
  rotate_left
  ·simp only [Act.put, List.setIfInBounds_toArray, List.set_cons_zero, List.set_cons_succ, i64_w, i32_w]
   rfl
  refine pure_ (i := 3) (N := some 21) (v := ?_) (a' := ?_) #[true, true, false, true, false, false, false, false, false, false, false, false, false, false, false] rfl rfl (any_of HT_.out (by kernel_rfl)) (fun _ _ _ h => h) (Or.inl ⟨by rfl, ?_⟩) ?_ ?_
  rotate_left
  ·intro w'
   go_simp
   with_reducible rfl
  rotate_left
  ·simp only [Act.put, List.setIfInBounds_toArray, List.set_cons_zero, List.set_cons_succ, i64_w, i32_w]
   rfl
  refine pure_ (i := 4) (N := some 22) (v := ?_) (a' := ?_) #[true, true, false, true, true, false, false, false, false, false, false, false, false, false, false] rfl rfl (any_of HT_.out (by kernel_rfl)) (fun _ _ _ h => h) (Or.inl ⟨by rfl, ?_⟩) ?_ ?_
  rotate_left
  ·intro w'
   go_simp
   with_reducible rfl
  rotate_left
  ·simp only [Act.put, List.setIfInBounds_toArray, List.set_cons_zero, List.set_cons_succ, i64_w, i32_w]
   rfl
  refine take_ (i := 7) (N := some 25) (v := ?_) (a' := ?_) #[true, true, false, true, true, false, false, true, false, false, false, false, false, false, false] rfl rfl (take_ofW HT_.out HW_.out (by kernel_rfl)) (fun _ _ _ h => h) (Or.inl ⟨by rfl, ?_⟩) hHeld ?_ ?_
  rotate_left
  ·rintro w' ⟨s0, s1, s2, s3⟩
   go_simp
   with_reducible rfl
  rotate_left
  ·simp only [Act.put, List.setIfInBounds_toArray, List.set_cons_zero, List.set_cons_succ, i64_w, i32_w]
   rfl
  refine take_ (i := 8) (N := some 26) (v := ?_) (a' := ?_) #[true, true, false, true, true, false, false, true, true, false, false, false, false, false, false] rfl rfl (take_ofW HT_.out HW_.out (by kernel_rfl)) (fun _ _ _ h => h) (Or.inl ⟨by rfl, ?_⟩) hHeld ?_ ?_
  rotate_left
  ·rintro w' ⟨s0, s1, s2, s3⟩
   go_simp
   with_reducible rfl
  rotate_left
  ·simp only [Act.put, List.setIfInBounds_toArray, List.set_cons_zero, List.set_cons_succ, i64_w, i32_w]
   rfl
  refine one_ (i := 2) (N := some 20) #[true, true, true, true, true, false, false, true, true, false, false, false, false, false, false] rfl rfl (one_of HT_.out (by kernel_rfl)) (by decide) (fun K hK => ?_)
  refine goes_ Try.func30 (by kernel_rfl) rfl #[.int .u64 (IntKind.u64.wrap (a0))] (by rfl) rfl rfl (by (try simp only [List.map_toArray, List.map_cons, List.map_nil]); first | done | rfl | (simp only [List.length_drop, List.length_take]; rfl)) ?_
  with_reducible refine (spec_WideUint.calls k (IntKind.u64.wrap (a0)) t391 t392 _ A4.out).mono ?_
  rintro e w120 ⟨v393, rfl, ho0, hb⟩
  refine ⟨_, rfl, ?_⟩
  have n0_ := Aside0.mk (Kd.V_below (by (with_reducible repeat (first | apply Kd.V_alloc | apply Kd.V_drewN | apply Kd.V_drew)); exact HOa.out) hb)
  have n1_ := Aside0.mk (Kd.V_below (by (with_reducible repeat (first | apply Kd.V_alloc | apply Kd.V_drewN | apply Kd.V_drew)); exact HOb.out) hb)
  have n2_ := Aside0.mk (Kd.V_lower (Kd.V_mono (ok' := fun k_ => k_ ≠ gb389 ∧ k_ ≠ gb390) ho0 (fun k_ hk_ => ⟨(Kd.freshB (g := gb389) (o := .cells #[.bool t381, .slice Ao115 t382.length co115] 27 (0, 0)) (by (with_reducible repeat (first | refine blk_drewN ?_ _ | refine blk_drew ?_ | refine blk_alloc ?_ _)); exact BK389.out) k_ hk_), (Kd.freshB (g := gb390) (o := .cells #[.bool t385, .slice Ao117 t386.length co117] 27 (0, 0)) (by (with_reducible repeat (first | refine blk_drewN ?_ _ | refine blk_drew ?_ | refine blk_alloc ?_ _)); exact BK390.out) k_ hk_)⟩)) (below_size (by repeat (first | (with_reducible first | exact HB.out | apply below_alloc | apply pw_below_drewN | apply below_drew1 | refine below_set ?_ GE389.out | refine below_set ?_ GE390.out) | exact HB.out))))
  have n3_ := Aside0.mk (blk_below (g := gb389) (o := .cells #[.bool t381, .slice Ao115 t382.length co115] 27 (0, 0)) (by (with_reducible repeat (first | refine blk_drewN ?_ _ | refine blk_drew ?_ | refine blk_alloc ?_ _)); exact BK389.out) hb)
  have n4_ := Aside0.mk (blk_below (g := gb390) (o := .cells #[.bool t385, .slice Ao117 t386.length co117] 27 (0, 0)) (by (with_reducible repeat (first | refine blk_drewN ?_ _ | refine blk_drew ?_ | refine blk_alloc ?_ _)); exact BK390.out) hb)
  have n5_ := Aside0.mk (below_step (by repeat (first | (with_reducible first | exact HB.out | apply below_alloc | apply pw_below_drewN | apply below_drew1 | refine below_set ?_ GE389.out | refine below_set ?_ GE390.out) | exact HB.out)) hb)
  clear HOa HOb BK389 BK390 HB;have HOa := n0_;have HOb := n1_;have HOc := n2_;have BK389 := n3_;have BK390 := n4_;have HB := n5_;clear n0_ n1_ n2_ n3_ n4_ n5_;(try clear hb);(try clear hb2);(try clear hk);(try clear hi);(try clear ho0)
  refine hK.out _ _ ⟨(blk_cell BK389.out 0).trans rfl, (blk_cell BK389.out 1).trans rfl, (blk_cell BK390.out 0).trans rfl, (blk_cell BK390.out 1).trans rfl⟩ (fun hHeld => ?_)
  clear hK K
  refine norm_ (a' := ?_) ?_ ?_
  rotate_left
  ·show Act.put _ (some 20) _ = _
   simp only [Act.put, List.setIfInBounds_toArray, List.set_cons_zero, List.set_cons_succ, i64_w, i32_w]
   rfl
  refine one_ (i := 5) (N := some 23) #[true, true, true, true, true, true, false, true, true, false, false, false, false, false, false] rfl rfl (one_of HT_.out (by kernel_rfl)) (by decide) (fun K hK => ?_)
  refine goes_ Try.func30 (by kernel_rfl) rfl #[.int .u64 (IntKind.u64.wrap (a1))] (by rfl) rfl rfl (by (try simp only [List.map_toArray, List.map_cons, List.map_nil]); first | done | rfl | (simp only [List.length_drop, List.length_take]; rfl)) ?_
  with_reducible refine (spec_WideUint.calls k (IntKind.u64.wrap (a1)) t395 t396 _ A5.out).mono ?_
  rintro e w121 ⟨v397, rfl, ho0, hb⟩
  refine ⟨_, rfl, ?_⟩
  have n0_ := Aside0.mk (Kd.V_below (by (with_reducible repeat (first | apply Kd.V_alloc | apply Kd.V_drewN | apply Kd.V_drew)); exact HOa.out) hb)
  have n1_ := Aside0.mk (Kd.V_below (by (with_reducible repeat (first | apply Kd.V_alloc | apply Kd.V_drewN | apply Kd.V_drew)); exact HOb.out) hb)
  have n2_ := Aside0.mk (Kd.V_below (by (with_reducible repeat (first | apply Kd.V_alloc | apply Kd.V_drewN | apply Kd.V_drew)); exact HOc.out) hb)
  have n3_ := Aside0.mk (Kd.V_lower (Kd.V_mono (ok' := fun k_ => k_ ≠ gb389 ∧ k_ ≠ gb390) ho0 (fun k_ hk_ => ⟨(Kd.freshB (g := gb389) (o := .cells #[.bool t381, .slice Ao115 t382.length co115] 27 (0, 0)) (by (with_reducible repeat (first | refine blk_drewN ?_ _ | refine blk_drew ?_ | refine blk_alloc ?_ _)); exact BK389.out) k_ hk_), (Kd.freshB (g := gb390) (o := .cells #[.bool t385, .slice Ao117 t386.length co117] 27 (0, 0)) (by (with_reducible repeat (first | refine blk_drewN ?_ _ | refine blk_drew ?_ | refine blk_alloc ?_ _)); exact BK390.out) k_ hk_)⟩)) (below_size (by repeat (first | (with_reducible first | exact HB.out | apply below_alloc | apply pw_below_drewN | apply below_drew1 | refine below_set ?_ GE389.out | refine below_set ?_ GE390.out) | exact HB.out))))
  have n4_ := Aside0.mk (blk_below (g := gb389) (o := .cells #[.bool t381, .slice Ao115 t382.length co115] 27 (0, 0)) (by (with_reducible repeat (first | refine blk_drewN ?_ _ | refine blk_drew ?_ | refine blk_alloc ?_ _)); exact BK389.out) hb)
  have n5_ := Aside0.mk (blk_below (g := gb390) (o := .cells #[.bool t385, .slice Ao117 t386.length co117] 27 (0, 0)) (by (with_reducible repeat (first | refine blk_drewN ?_ _ | refine blk_drew ?_ | refine blk_alloc ?_ _)); exact BK390.out) hb)
  have n6_ := Aside0.mk (below_step (by repeat (first | (with_reducible first | exact HB.out | apply below_alloc | apply pw_below_drewN | apply below_drew1 | refine below_set ?_ GE389.out | refine below_set ?_ GE390.out) | exact HB.out)) hb)
  clear HOa HOb HOc BK389 BK390 HB;have HOa := n0_;have HOb := n1_;have HOc := n2_;have HOd := n3_;have BK389 := n4_;have BK390 := n5_;have HB := n6_;clear n0_ n1_ n2_ n3_ n4_ n5_ n6_;(try clear hb);(try clear hb2);(try clear hk);(try clear hi);(try clear ho0)
  obtain ⟨Ao122, co122, eo122⟩ := Kd.V_slice HOc.out
  (first | subst eo122 | (injection eo122 with f1_ f2_ f3_; have f4_ := f1_.symm; have f5_ := f3_.symm; clear f1_ f2_ f3_; subst f4_; subst f5_))
  obtain ⟨Ao123, co123, eo123⟩ := Kd.V_slice HOd.out
  (first | subst eo123 | (injection eo123 with f1_ f2_ f3_; have f4_ := f1_.symm; have f5_ := f3_.symm; clear f1_ f2_ f3_; subst f4_; subst f5_))
  refine hK.out _ _ ⟨(blk_cell BK389.out 0).trans rfl, (blk_cell BK389.out 1).trans rfl, (blk_cell BK390.out 0).trans rfl, (blk_cell BK390.out 1).trans rfl⟩ (fun hHeld => ?_)
  clear hK K
  refine norm_ (a' := ?_) ?_ ?_
  rotate_left
  ·show Act.put _ (some 23) _ = _
   simp only [Act.put, List.setIfInBounds_toArray, List.set_cons_zero, List.set_cons_succ, i64_w, i32_w]
   rfl
  refine one_ (i := 6) (N := some 24) #[true, true, true, true, true, true, true, true, true, false, false, false, false, false, false] rfl rfl (one_of HT_.out (by kernel_rfl)) (by decide) (fun K hK => ?_)
  refine goes_ Try.func29 (by kernel_rfl) rfl #[.agg #[.bool t391, .slice Ao122 t392.length co122], .agg #[.bool t395, .slice Ao123 t396.length co123]] (by rfl) rfl rfl (by (try simp only [List.map_toArray, List.map_cons, List.map_nil]); first | done | rfl | (simp only [List.length_drop, List.length_take]; rfl)) ?_
  with_reducible refine (spec_WideMul.calls k t391 _ _ t392 t395 _ _ t396 t399 t400 _ ?side1 ?side2 ?side3 ?side4 A6.out).mono ?_
  (case side1 => repeat (first | exact (Kd.V_reads' HOc.out).2.2 | (with_reducible refine Kd.C_alloc ?_ _) | (with_reducible refine Kd.C_drewN ?_ _) | (with_reducible refine Kd.C_drew ?_)))
  (case side2 => exact (Kd.V_reads' HOc.out).2.1)
  (case side3 => repeat (first | exact (Kd.V_reads' HOd.out).2.2 | (with_reducible refine Kd.C_alloc ?_ _) | (with_reducible refine Kd.C_drewN ?_ _) | (with_reducible refine Kd.C_drew ?_)))
  (case side4 => exact (Kd.V_reads' HOd.out).2.1)
  rintro e w124 ⟨v401, rfl, ho0, hb⟩
  refine ⟨_, rfl, ?_⟩
  have n0_ := Aside0.mk (Kd.V_below (by (with_reducible repeat (first | apply Kd.V_alloc | apply Kd.V_drewN | apply Kd.V_drew)); exact HOa.out) hb)
  have n1_ := Aside0.mk (Kd.V_below (by (with_reducible repeat (first | apply Kd.V_alloc | apply Kd.V_drewN | apply Kd.V_drew)); exact HOb.out) hb)
  have n2_ := Aside0.mk (Kd.V_below (by (with_reducible repeat (first | apply Kd.V_alloc | apply Kd.V_drewN | apply Kd.V_drew)); exact HOc.out) hb)
  have n3_ := Aside0.mk (Kd.V_below (by (with_reducible repeat (first | apply Kd.V_alloc | apply Kd.V_drewN | apply Kd.V_drew)); exact HOd.out) hb)
  have n4_ := Aside0.mk (Kd.V_lower (Kd.V_mono (ok' := fun k_ => k_ ≠ gb389 ∧ k_ ≠ gb390) ho0 (fun k_ hk_ => ⟨(Kd.freshB (g := gb389) (o := .cells #[.bool t381, .slice Ao115 t382.length co115] 27 (0, 0)) (by (with_reducible repeat (first | refine blk_drewN ?_ _ | refine blk_drew ?_ | refine blk_alloc ?_ _)); exact BK389.out) k_ hk_), (Kd.freshB (g := gb390) (o := .cells #[.bool t385, .slice Ao117 t386.length co117] 27 (0, 0)) (by (with_reducible repeat (first | refine blk_drewN ?_ _ | refine blk_drew ?_ | refine blk_alloc ?_ _)); exact BK390.out) k_ hk_)⟩)) (below_size (by repeat (first | (with_reducible first | exact HB.out | apply below_alloc | apply pw_below_drewN | apply below_drew1 | refine below_set ?_ GE389.out | refine below_set ?_ GE390.out) | exact HB.out))))
  have n5_ := Aside0.mk (blk_below (g := gb389) (o := .cells #[.bool t381, .slice Ao115 t382.length co115] 27 (0, 0)) (by (with_reducible repeat (first | refine blk_drewN ?_ _ | refine blk_drew ?_ | refine blk_alloc ?_ _)); exact BK389.out) hb)
  have n6_ := Aside0.mk (blk_below (g := gb390) (o := .cells #[.bool t385, .slice Ao117 t386.length co117] 27 (0, 0)) (by (with_reducible repeat (first | refine blk_drewN ?_ _ | refine blk_drew ?_ | refine blk_alloc ?_ _)); exact BK390.out) hb)
  have n7_ := Aside0.mk (below_step (by repeat (first | (with_reducible first | exact HB.out | apply below_alloc | apply pw_below_drewN | apply below_drew1 | refine below_set ?_ GE389.out | refine below_set ?_ GE390.out) | exact HB.out)) hb)
  clear HOa HOb HOc HOd BK389 BK390 HB;have HOa := n0_;have HOb := n1_;have HOc := n2_;have HOd := n3_;have HO402 := n4_;have BK389 := n5_;have BK390 := n6_;have HB := n7_;clear n0_ n1_ n2_ n3_ n4_ n5_ n6_ n7_;(try clear hb);(try clear hb2);(try clear hk);(try clear hi);(try clear ho0)
  obtain ⟨Ao125, co125, eo125⟩ := Kd.V_slice HO402.out
  (first | subst eo125 | (injection eo125 with f1_ f2_ f3_; have f4_ := f1_.symm; have f5_ := f3_.symm; clear f1_ f2_ f3_; subst f4_; subst f5_))
  refine hK.out _ _ ⟨(blk_cell BK389.out 0).trans rfl, (blk_cell BK389.out 1).trans rfl, (blk_cell BK390.out 0).trans rfl, (blk_cell BK390.out 1).trans rfl⟩ (fun hHeld => ?_)
  clear hK K
  refine norm_ (a' := ?_) ?_ ?_
  rotate_left
  ·show Act.put _ (some 24) _ = _
   simp only [Act.put, List.setIfInBounds_toArray, List.set_cons_zero, List.set_cons_succ, i64_w, i32_w]
   rfl
  refine one_ (i := 9) (N := some 27) #[true, true, true, true, true, true, true, true, true, true, false, false, false, false, false] rfl rfl (one_of HT_.out (by kernel_rfl)) (by decide) (fun K hK => ?_)
  refine goes_ Try.func26 (by kernel_rfl) rfl #[.agg #[.bool t399, .slice Ao125 t400.length co125], .agg #[.bool t381, .slice Ao115 t382.length co115], .agg #[.bool t385, .slice Ao117 t386.length co117]] (by rfl) rfl rfl (by (try simp only [List.map_toArray, List.map_cons, List.map_nil]); first | done | rfl | (simp only [List.length_drop, List.length_take]; rfl)) ?_
  with_reducible refine (laws_fitted.calls k t399 _ _ t400 t381 _ _ t382 t385 _ _ t386 t403 t404 _ ?side1 ?side2 ?side3 ?side4 ?side5 ?side6 A7.out).mono ?_
  (case side1 => repeat (first | exact (Kd.V_reads' HO402.out).2.2 | (with_reducible refine Kd.C_alloc ?_ _) | (with_reducible refine Kd.C_drewN ?_ _) | (with_reducible refine Kd.C_drew ?_)))
  (case side2 => exact (Kd.V_reads' HO402.out).2.1)
  (case side3 => repeat (first | exact (Kd.V_reads' HOa.out).2.2 | (with_reducible refine Kd.C_alloc ?_ _) | (with_reducible refine Kd.C_drewN ?_ _) | (with_reducible refine Kd.C_drew ?_)))
  (case side4 => exact (Kd.V_reads' HOa.out).2.1)
  (case side5 => repeat (first | exact (Kd.V_reads' HOb.out).2.2 | (with_reducible refine Kd.C_alloc ?_ _) | (with_reducible refine Kd.C_drewN ?_ _) | (with_reducible refine Kd.C_drew ?_)))
  (case side6 => exact (Kd.V_reads' HOb.out).2.1)
  rintro e w126 ⟨rfl, hb⟩
  refine ⟨_, rfl, ?_⟩
  have n0_ := Aside0.mk (Kd.V_below (by (with_reducible repeat (first | apply Kd.V_alloc | apply Kd.V_drewN | apply Kd.V_drew)); exact HOa.out) hb)
  have n1_ := Aside0.mk (Kd.V_below (by (with_reducible repeat (first | apply Kd.V_alloc | apply Kd.V_drewN | apply Kd.V_drew)); exact HOb.out) hb)
  have n2_ := Aside0.mk (Kd.V_below (by (with_reducible repeat (first | apply Kd.V_alloc | apply Kd.V_drewN | apply Kd.V_drew)); exact HOc.out) hb)
  have n3_ := Aside0.mk (Kd.V_below (by (with_reducible repeat (first | apply Kd.V_alloc | apply Kd.V_drewN | apply Kd.V_drew)); exact HOd.out) hb)
  have n4_ := Aside0.mk (Kd.V_below (by (with_reducible repeat (first | apply Kd.V_alloc | apply Kd.V_drewN | apply Kd.V_drew)); exact HO402.out) hb)
  have n5_ := Aside0.mk (blk_below (g := gb389) (o := .cells #[.bool t381, .slice Ao115 t382.length co115] 27 (0, 0)) (by (with_reducible repeat (first | refine blk_drewN ?_ _ | refine blk_drew ?_ | refine blk_alloc ?_ _)); exact BK389.out) hb)
  have n6_ := Aside0.mk (blk_below (g := gb390) (o := .cells #[.bool t385, .slice Ao117 t386.length co117] 27 (0, 0)) (by (with_reducible repeat (first | refine blk_drewN ?_ _ | refine blk_drew ?_ | refine blk_alloc ?_ _)); exact BK390.out) hb)
  have n7_ := Aside0.mk (below_step (by repeat (first | (with_reducible first | exact HB.out | apply below_alloc | apply pw_below_drewN | apply below_drew1 | refine below_set ?_ GE389.out | refine below_set ?_ GE390.out) | exact HB.out)) hb)
  clear HOa HOb HOc HOd HO402 BK389 BK390 HB;have HOa := n0_;have HOb := n1_;have HOc := n2_;have HOd := n3_;have HO402 := n4_;have BK389 := n5_;have BK390 := n6_;have HB := n7_;clear n0_ n1_ n2_ n3_ n4_ n5_ n6_ n7_;(try clear hb);(try clear hb2);(try clear hk);(try clear hi)
  refine hK.out _ _ ⟨(blk_cell BK389.out 0).trans rfl, (blk_cell BK389.out 1).trans rfl, (blk_cell BK390.out 0).trans rfl, (blk_cell BK390.out 1).trans rfl⟩ (fun hHeld => ?_)
  clear hK K
  refine norm_ (a' := ?_) ?_ ?_
  rotate_left
  ·show Act.put _ (some 27) _ = _
   simp only [Act.put, List.setIfInBounds_toArray, List.set_cons_zero, List.set_cons_succ, i64_w, i32_w]
   rfl
  refine pure_ (i := 10) (N := some 17) (v := ?_) (a' := ?_) #[true, true, true, true, true, true, true, true, true, true, true, false, false, false, false] rfl rfl (any_of HT_.out (by kernel_rfl)) (fun _ _ _ h => h) (Or.inl ⟨by rfl, ?_⟩) ?_ ?_
  rotate_left
  ·intro w'
   go_simp
   with_reducible rfl
  rotate_left
  ·simp only [Act.put, List.setIfInBounds_toArray, List.set_cons_zero, List.set_cons_succ, i64_w, i32_w]
   rfl
  refine pure_ (i := 11) (N := some 28) (v := ?_) (a' := ?_) #[true, true, true, true, true, true, true, true, true, true, true, true, false, false, false] rfl rfl (any_of HT_.out (by kernel_rfl)) (fun _ _ _ h => h) (Or.inl ⟨by rfl, ?_⟩) ?_ ?_
  rotate_left
  ·intro w'
   go_simp
   with_reducible rfl
  rotate_left
  ·simp only [Act.put, List.setIfInBounds_toArray, List.set_cons_zero, List.set_cons_succ, i64_w, i32_w]
   rfl
  refine pure_ (i := 12) (N := some 29) (v := ?_) (a' := ?_) #[true, true, true, true, true, true, true, true, true, true, true, true, true, false, false] rfl rfl (any_of HT_.out (by kernel_rfl)) (fun _ _ _ h => h) (Or.inl ⟨by rfl, ?_⟩) ?_ ?_
  rotate_left
  ·intro w'
   go_simp
   with_reducible rfl
  rotate_left
  ·simp only [Act.put, List.setIfInBounds_toArray, List.set_cons_zero, List.set_cons_succ, i64_w, i32_w]
   rfl
  refine pure_ (i := 13) (N := some 7) (v := ?_) (a' := ?_) #[true, true, true, true, true, true, true, true, true, true, true, true, true, true, false] rfl rfl (any_of HT_.out (by kernel_rfl)) (fun _ _ _ h => h) (Or.inl ⟨by rfl, ?_⟩) ?_ ?_
  rotate_left
  ·intro w'
   go_simp
   with_reducible rfl
  rotate_left
  ·simp only [Act.put, List.setIfInBounds_toArray, List.set_cons_zero, List.set_cons_succ, i64_w, i32_w]
   rfl
  refine pure_ (i := 14) (N := some 8) (v := ?_) (a' := ?_) #[true, true, true, true, true, true, true, true, true, true, true, true, true, true, true] rfl rfl (any_of HT_.out (by kernel_rfl)) (fun _ _ _ h => h) (Or.inl ⟨by rfl, ?_⟩) ?_ ?_
  rotate_left
  ·intro w'
   go_simp
   with_reducible rfl
  rotate_left
  ·simp only [Act.put, List.setIfInBounds_toArray, List.set_cons_zero, List.set_cons_succ, i64_w, i32_w]
   rfl
  refine done_ (done_of HT_.out (by kernel_rfl)) ?_
  try go_wp2_with (first | ((with_reducible refine gate_callee (f := 31) rfl ?_); refine goesL_ (some 33) rfl rfl Try.func31 (by kernel_rfl) rfl #[.int .u16 a0, .int .u16 a1] rfl (by (try simp only [List.map_toArray, List.map_cons, List.map_nil]); first | done | rfl | (simp only [List.length_drop, List.length_take]; rfl)) ?_; (with_reducible refine (impl_MulUint16.calls a0 a1 t405 t406 _ A8.out).mono ?_); rintro e w127 ⟨rfl, hb⟩; refine ⟨_, rfl, ?_⟩; have n0_ := Aside0.mk (Kd.V_below (by (with_reducible repeat (first | apply Kd.V_alloc | apply Kd.V_drewN | apply Kd.V_drew)); exact HOa.out) hb); have n1_ := Aside0.mk (Kd.V_below (by (with_reducible repeat (first | apply Kd.V_alloc | apply Kd.V_drewN | apply Kd.V_drew)); exact HOb.out) hb); have n2_ := Aside0.mk (Kd.V_below (by (with_reducible repeat (first | apply Kd.V_alloc | apply Kd.V_drewN | apply Kd.V_drew)); exact HOc.out) hb); have n3_ := Aside0.mk (Kd.V_below (by (with_reducible repeat (first | apply Kd.V_alloc | apply Kd.V_drewN | apply Kd.V_drew)); exact HOd.out) hb); have n4_ := Aside0.mk (Kd.V_below (by (with_reducible repeat (first | apply Kd.V_alloc | apply Kd.V_drewN | apply Kd.V_drew)); exact HO402.out) hb); have n5_ := Aside0.mk (blk_below (g := gb389) (o := .cells #[.bool t381, .slice Ao115 t382.length co115] 27 (0, 0)) (by (with_reducible repeat (first | refine blk_drewN ?_ _ | refine blk_drew ?_ | refine blk_alloc ?_ _)); exact BK389.out) hb); have n6_ := Aside0.mk (blk_below (g := gb390) (o := .cells #[.bool t385, .slice Ao117 t386.length co117] 27 (0, 0)) (by (with_reducible repeat (first | refine blk_drewN ?_ _ | refine blk_drew ?_ | refine blk_alloc ?_ _)); exact BK390.out) hb); have n7_ := Aside0.mk (below_step (by repeat (first | (with_reducible first | exact HB.out | apply below_alloc | apply pw_below_drewN | apply below_drew1 | refine below_set ?_ GE389.out | refine below_set ?_ GE390.out) | exact HB.out)) hb); clear HOa; clear HOb; clear HOc; clear HOd; clear HO402; clear BK389; clear BK390; clear HB; have HOa := n0_; have HOb := n1_; have HOc := n2_; have HOd := n3_; have HO402 := n4_; have BK389 := n5_; have BK390 := n6_; have HB := n7_; clear n0_ n1_ n2_ n3_ n4_ n5_ n6_ n7_; (try clear hb); (try clear hb2); (try clear hk); (try clear hi)) | ((with_reducible refine gate_callee (f := 31) rfl ?_); refine goesL_ (some 37) rfl rfl Try.func31 (by kernel_rfl) rfl #[.int .u16 2, .int .u16 3] rfl (by (try simp only [List.map_toArray, List.map_cons, List.map_nil]); first | done | rfl | (simp only [List.length_drop, List.length_take]; rfl)) ?_; (with_reducible refine (impl_MulUint16.calls 2 3 t407 t408 _ A9.out).mono ?_); rintro e w128 ⟨rfl, hb⟩; refine ⟨_, rfl, ?_⟩; have n0_ := Aside0.mk (Kd.V_below (by (with_reducible repeat (first | apply Kd.V_alloc | apply Kd.V_drewN | apply Kd.V_drew)); exact HOa.out) hb); have n1_ := Aside0.mk (Kd.V_below (by (with_reducible repeat (first | apply Kd.V_alloc | apply Kd.V_drewN | apply Kd.V_drew)); exact HOb.out) hb); have n2_ := Aside0.mk (Kd.V_below (by (with_reducible repeat (first | apply Kd.V_alloc | apply Kd.V_drewN | apply Kd.V_drew)); exact HOc.out) hb); have n3_ := Aside0.mk (Kd.V_below (by (with_reducible repeat (first | apply Kd.V_alloc | apply Kd.V_drewN | apply Kd.V_drew)); exact HOd.out) hb); have n4_ := Aside0.mk (Kd.V_below (by (with_reducible repeat (first | apply Kd.V_alloc | apply Kd.V_drewN | apply Kd.V_drew)); exact HO402.out) hb); have n5_ := Aside0.mk (blk_below (g := gb389) (o := .cells #[.bool t381, .slice Ao115 t382.length co115] 27 (0, 0)) (by (with_reducible repeat (first | refine blk_drewN ?_ _ | refine blk_drew ?_ | refine blk_alloc ?_ _)); exact BK389.out) hb); have n6_ := Aside0.mk (blk_below (g := gb390) (o := .cells #[.bool t385, .slice Ao117 t386.length co117] 27 (0, 0)) (by (with_reducible repeat (first | refine blk_drewN ?_ _ | refine blk_drew ?_ | refine blk_alloc ?_ _)); exact BK390.out) hb); have n7_ := Aside0.mk (below_step (by repeat (first | (with_reducible first | exact HB.out | apply below_alloc | apply pw_below_drewN | apply below_drew1 | refine below_set ?_ GE389.out | refine below_set ?_ GE390.out) | exact HB.out)) hb); clear HOa; clear HOb; clear HOc; clear HOd; clear HO402; clear BK389; clear BK390; clear HB; have HOa := n0_; have HOb := n1_; have HOc := n2_; have HOd := n3_; have HO402 := n4_; have BK389 := n5_; have BK390 := n6_; have HB := n7_; clear n0_ n1_ n2_ n3_ n4_ n5_ n6_ n7_; (try clear hb); (try clear hb2); (try clear hk); (try clear hi)))
  go_ret
  exact ⟨by first | rfl | (simp [errW_none, errW_some] <;> rfl) | (simp [*, errW_none, errW_some] <;> rfl), by repeat (first | (with_reducible first | exact HB.out | apply below_alloc | apply pw_below_drewN | apply below_drew1 | refine below_set ?_ GE389.out | refine below_set ?_ GE390.out) | exact HB.out)⟩
/-- THE ONE PURE STATEMENT of laws_FnMulUint16: yours. -/
def laws_FnMulUint16.Pure : Prop := ∀ (a0 : Int) (a1 : Int), (Lit.int .u16 a0).wf = true → (Lit.int .u16 a1).wf = true → ∃ k, laws_FnMulUint16.f k a0 a1 = some true
theorem laws_FnMulUint16.walk (P : laws_FnMulUint16.Pure) (a0 : Int) (a1 : Int) (w : World) (w0 : (Lit.int .u16 a0).wf = true) (w1 : (Lit.int .u16 a1).wf = true) :
  Calls Try.prog 12 #[.int .u16 a0, .int .u16 a1] w fun e w' => e = .returned (.bool true) ∧ Below w.heap.size w w' := by
 obtain ⟨k, h⟩ := P a0 a1 w0 w1
 refine (laws_FnMulUint16.calls k a0 a1 true w h).mono ?_
 rintro e w' ⟨rfl, hd⟩
 exact ⟨rfl, hd⟩
end Go.Proofs.Ytnjniacohbeonaa.Q
