-- written by programs of ours (wip/tools) out of the kit's printer: the functions of one law, less those that are shared or proved by hand
import Derived.Test.YtnjniacohbeonaaQ0
import Derived.Test.YtnjniacohbeonaaQWda
import Derived.Test.YtnjniacohbeonaaQWdb
namespace Go.Proofs.Ytnjniacohbeonaa.Q
open Go.RowKit Go.Proofs.YtnjniacohbeonaaW.PrintWords Go.Proofs.YtnjniacohbeonaaW.PrintLast Go.Proofs.YtnjniacohbeonaaW.PrintMore
attribute [local go_sem] max2_int min2_int max_two min_two max_three min_three max_four min_four
set_option linter.unusedVariables false
set_option linter.unusedSimpArgs false

/-! ### spec_WideSub: function 54 -/
def spec_WideSub.f (k : Nat) (a0_0 : Bool) (l0_1 : List Int) (a1_0 : Bool) (l1_1 : List Int) : Option (Bool × List Int) := (spec_Wide_Negated.f k a1_0 l1_1).bind fun bt203 => ((spec_WideAdd.f k a0_0 l0_1 bt203.1 bt203.2).bind fun bt207 => (some (bt207.1, bt207.2)))
theorem spec_WideSub.mono : ∀ a0 a1 a2 a3 k, LeO (spec_WideSub.f k a0 a1 a2 a3) (spec_WideSub.f (k + 1) a0 a1 a2 a3) := by
  intro a0 a1 a2 a3 k
  unfold spec_WideSub.f
  repeat' first
      | (with_reducible exact spec_WideAdd.mono _ _ _ _ _)
      | (with_reducible exact spec_Wide_Negated.mono _ _ _)
      | (with_reducible exact LeO.refl _)
      | (with_reducible exact LeO.none _)
      | (with_reducible refine LeO.ite ?_ ?_)
      | (with_reducible refine LeO.bind ?_ (fun _ => ?_))
      | exact spec_WideAdd.mono _ _ _ _ _
      | exact spec_Wide_Negated.mono _ _ _
      | exact LeO.none _
      | refine LeO.ite ?_ ?_
      | refine LeO.bind ?_ (fun _ => ?_)
set_option maxHeartbeats 8000000 in
set_option maxRecDepth 100000 in
theorem spec_WideSub.calls (k : Nat) (a0_0 : Bool) (A0_1 : Option Addr) (c0_1 : Nat) (l0_1 : List Int) (a1_0 : Bool) (P1_1_ : Nat → Prop) (A1_1 : Option Addr) (c1_1 : Nat) (l1_1 : List Int) (r1 : Bool) (r2 : List Int) (w : World) (hr0_1 : Kd.C (Kd.int .u32) w A0_1 l0_1.length l0_1) (hc0_1 : l0_1.length ≤ c0_1) (hs1_1 : Kd.V (Kd.int .u32) 44 w w.heap.size (fun k_ => P1_1_ k_) (.slice A1_1 l1_1.length c1_1) l1_1) (h : spec_WideSub.f k a0_0 l0_1 a1_0 l1_1 = some (r1, r2)) :
    Calls Try.prog 54 #[.agg #[.bool a0_0, .slice A0_1 l0_1.length c0_1], .agg #[.bool a1_0, .slice A1_1 l1_1.length c1_1]] w fun e w' => ∃ v1_ : Value, e = .returned (.agg #[.bool r1, v1_]) ∧ Kd.V (Kd.int .u32) 44 w' w.heap.size (fun k_ => (P1_1_ k_ ∨ w.heap.size ≤ k_)) v1_ r2 ∧ Below w.heap.size w w' := by
  have hu27 := Try.underlying27
  have HR0_1 := Aside0.mk hr0_1
  have HC0_1 := Aside0.mk hc0_1
  clear hr0_1 hc0_1
  have HO1_1 := Aside0.mk (show Kd.V (Kd.int .u32) 44 w w.heap.size (fun k_ => (P1_1_ k_ ∨ w.heap.size ≤ k_)) (.slice A1_1 l1_1.length c1_1) l1_1 from Kd.V_mono hs1_1 (fun k_ hk => .inl hk))
  have HB := Aside0.mk (Below.refl w.heap.size w)
  have H : ((spec_Wide_Negated.f k a1_0 l1_1).bind fun bt203 => ((spec_WideAdd.f k a0_0 l0_1 bt203.1 bt203.2).bind fun bt207 => (some (bt207.1, bt207.2)))) = some (r1, r2) := h
  clear h
  replace H := Option.bind_eq_some_iff.mp H
  obtain ⟨⟨t203, t204⟩, A30, H⟩ := H
  replace H : ((spec_WideAdd.f k a0_0 l0_1 t203 t204).bind fun bt207 => (some (bt207.1, bt207.2))) = some (r1, r2) := H
  have A3 := Aside0.mk A30
  clear A30
  replace H := Option.bind_eq_some_iff.mp H
  obtain ⟨⟨t207, t208⟩, A40, H⟩ := H
  replace H : (some (t207, t208)) = some (r1, r2) := H
  have A4 := Aside0.mk A40
  clear A40
  simp only [Option.some.injEq, Prod.mk.injEq] at H
  obtain ⟨rfl, rfl⟩ := H
  go_enter Try.func54, Try.ntmps54
  try go_wp2_with (first | ((with_reducible refine gate_dst (N := 2) rfl ?_); refine box_event ?hg (N := 2) ?hd (cs := #[.bool a0_0, .slice A0_1 l0_1.length c0_1]) (t := 27) ?hr ?_; (case hd => rfl); (case hg => rfl); (case hr => first | (go_simp; done) | (go_simp; rfl)); intro gb200 hg w5 hbox hb; have n0_ := Aside0.mk (Kd.V_below (Kd.V_elderB (by (with_reducible repeat (first | apply Kd.V_alloc | apply Kd.V_drewN | apply Kd.V_drew)); exact HO1_1.out) gb200 (Nat.le_of_eq hg.symm)) hb); have n1_ := Aside0.mk (below_step (by repeat (first | (with_reducible first | exact HB.out | apply below_alloc | apply pw_below_drewN | apply below_drew1) | exact HB.out)) hb); have n2_ := Aside0.mk (hbox); have n3_ := Aside0.mk ((by rw [hg]; exact (below_size (by repeat (first | (with_reducible first | exact HB.out | apply below_alloc | apply pw_below_drewN | apply below_drew1) | exact HB.out))) : w.heap.size ≤ gb200)); have n4_ := Aside0.mk ((by rw [hg]; exact (below_size (by repeat (first | (with_reducible first | exact HB.out | apply below_alloc | apply pw_below_drewN | apply below_drew1) | exact HB.out))) : w.heap.size ≤ gb200)); clear HO1_1; clear HB; have HO1_1 := n0_; have HB := n1_; have BK200 := n2_; have GW200 := n3_; have GE200 := n4_; clear n0_ n1_ n2_ n3_ n4_; clear hb hbox hg) | ((with_reducible refine gate_dst (N := 3) rfl ?_); refine box_event ?hg (N := 3) ?hd (cs := #[.bool a1_0, .slice A1_1 l1_1.length c1_1]) (t := 27) ?hr ?_; (case hd => rfl); (case hg => rfl); (case hr => first | (go_simp; done) | (go_simp; rfl)); intro gb201 hg w6 hbox hb; have n0_ := Aside0.mk (Kd.V_below (Kd.V_elderB (by (with_reducible repeat (first | apply Kd.V_alloc | apply Kd.V_drewN | apply Kd.V_drew)); exact HO1_1.out) gb201 (Nat.le_of_eq hg.symm)) hb); have n1_ := Aside0.mk (blk_below (g := gb200) (o := .cells #[.bool a0_0, .slice A0_1 l0_1.length c0_1] 27 (0, 0)) (by (with_reducible repeat (first | refine blk_drewN ?_ _ | refine blk_drew ?_ | refine blk_alloc ?_ _)); exact BK200.out) hb); have n2_ := Aside0.mk (below_step (by repeat (first | (with_reducible first | exact HB.out | apply below_alloc | apply pw_below_drewN | apply below_drew1 | refine below_set ?_ GE200.out) | exact HB.out)) hb); have n3_ := Aside0.mk (hbox); have n4_ := Aside0.mk ((by rw [hg]; exact (below_size (by repeat (first | (with_reducible first | exact HB.out | apply below_alloc | apply pw_below_drewN | apply below_drew1 | refine below_set ?_ GE200.out) | exact HB.out))) : w.heap.size ≤ gb201)); have n5_ := Aside0.mk ((by rw [hg]; exact (below_size (by repeat (first | (with_reducible first | exact HB.out | apply below_alloc | apply pw_below_drewN | apply below_drew1 | refine below_set ?_ GE200.out) | exact HB.out))) : w.heap.size ≤ gb201)); have n6_ := Aside0.mk ((by rw [hg]; exact Nat.ne_of_lt (blk_lt (g := gb200) (o := .cells #[.bool a0_0, .slice A0_1 l0_1.length c0_1] 27 (0, 0)) (by (with_reducible repeat (first | refine blk_drewN ?_ _ | refine blk_drew ?_ | refine blk_alloc ?_ _)); exact BK200.out)) : gb200 ≠ gb201)); have n7_ := Aside0.mk ((by rw [hg]; exact Nat.ne_of_gt (blk_lt (g := gb200) (o := .cells #[.bool a0_0, .slice A0_1 l0_1.length c0_1] 27 (0, 0)) (by (with_reducible repeat (first | refine blk_drewN ?_ _ | refine blk_drew ?_ | refine blk_alloc ?_ _)); exact BK200.out)) : gb201 ≠ gb200)); clear HO1_1; clear BK200; clear HB; have HO1_1 := n0_; have BK200 := n1_; have HB := n2_; have BK201 := n3_; have GW201 := n4_; have GE201 := n5_; have NB200_201 := n6_; have NB201_200 := n7_; clear n0_ n1_ n2_ n3_ n4_ n5_ n6_ n7_; clear hb hbox hg) | ((with_reducible refine gate_dst (N := 4) rfl ?_); refine box_event ?hg (N := 4) ?hd (cs := #[.bool false, .slice none 0 0]) (t := 27) ?hr ?_; (case hd => rfl); (case hg => rfl); (case hr => first | (go_simp; done) | (go_simp; rfl)); intro gb202 hg w7 hbox hb; have n0_ := Aside0.mk (Kd.V_below (Kd.V_elderB (by (with_reducible repeat (first | apply Kd.V_alloc | apply Kd.V_drewN | apply Kd.V_drew)); exact HO1_1.out) gb202 (Nat.le_of_eq hg.symm)) hb); have n1_ := Aside0.mk (blk_below (g := gb200) (o := .cells #[.bool a0_0, .slice A0_1 l0_1.length c0_1] 27 (0, 0)) (by (with_reducible repeat (first | refine blk_drewN ?_ _ | refine blk_drew ?_ | refine blk_alloc ?_ _)); exact BK200.out) hb); have n2_ := Aside0.mk (blk_below (g := gb201) (o := .cells #[.bool a1_0, .slice A1_1 l1_1.length c1_1] 27 (0, 0)) (by (with_reducible repeat (first | refine blk_drewN ?_ _ | refine blk_drew ?_ | refine blk_alloc ?_ _)); exact BK201.out) hb); have n3_ := Aside0.mk (below_step (by repeat (first | (with_reducible first | exact HB.out | apply below_alloc | apply pw_below_drewN | apply below_drew1 | refine below_set ?_ GE200.out | refine below_set ?_ GE201.out) | exact HB.out)) hb); have n4_ := Aside0.mk (hbox); have n5_ := Aside0.mk ((by rw [hg]; exact (below_size (by repeat (first | (with_reducible first | exact HB.out | apply below_alloc | apply pw_below_drewN | apply below_drew1 | refine below_set ?_ GE200.out | refine below_set ?_ GE201.out) | exact HB.out))) : w.heap.size ≤ gb202)); have n6_ := Aside0.mk ((by rw [hg]; exact (below_size (by repeat (first | (with_reducible first | exact HB.out | apply below_alloc | apply pw_below_drewN | apply below_drew1 | refine below_set ?_ GE200.out | refine below_set ?_ GE201.out) | exact HB.out))) : w.heap.size ≤ gb202)); have n7_ := Aside0.mk ((by rw [hg]; exact Nat.ne_of_lt (blk_lt (g := gb200) (o := .cells #[.bool a0_0, .slice A0_1 l0_1.length c0_1] 27 (0, 0)) (by (with_reducible repeat (first | refine blk_drewN ?_ _ | refine blk_drew ?_ | refine blk_alloc ?_ _)); exact BK200.out)) : gb200 ≠ gb202)); have n8_ := Aside0.mk ((by rw [hg]; exact Nat.ne_of_gt (blk_lt (g := gb200) (o := .cells #[.bool a0_0, .slice A0_1 l0_1.length c0_1] 27 (0, 0)) (by (with_reducible repeat (first | refine blk_drewN ?_ _ | refine blk_drew ?_ | refine blk_alloc ?_ _)); exact BK200.out)) : gb202 ≠ gb200)); have n9_ := Aside0.mk ((by rw [hg]; exact Nat.ne_of_lt (blk_lt (g := gb201) (o := .cells #[.bool a1_0, .slice A1_1 l1_1.length c1_1] 27 (0, 0)) (by (with_reducible repeat (first | refine blk_drewN ?_ _ | refine blk_drew ?_ | refine blk_alloc ?_ _)); exact BK201.out)) : gb201 ≠ gb202)); have n10_ := Aside0.mk ((by rw [hg]; exact Nat.ne_of_gt (blk_lt (g := gb201) (o := .cells #[.bool a1_0, .slice A1_1 l1_1.length c1_1] 27 (0, 0)) (by (with_reducible repeat (first | refine blk_drewN ?_ _ | refine blk_drew ?_ | refine blk_alloc ?_ _)); exact BK201.out)) : gb202 ≠ gb201)); clear HO1_1; clear BK200; clear BK201; clear HB; have HO1_1 := n0_; have BK200 := n1_; have BK201 := n2_; have HB := n3_; have BK202 := n4_; have GW202 := n5_; have GE202 := n6_; have NB200_202 := n7_; have NB202_200 := n8_; have NB201_202 := n9_; have NB202_201 := n10_; clear n0_ n1_ n2_ n3_ n4_ n5_ n6_ n7_ n8_ n9_ n10_; clear hb hbox hg))
  have n0_ := Aside0.mk (Kd.V_drew HO1_1.out)
  have n1_ := Aside0.mk (blk_drew BK200.out)
  have n2_ := Aside0.mk (blk_drew BK201.out)
  have n3_ := Aside0.mk (blk_drew BK202.out)
  have n4_ := Aside0.mk (below_drew1 HB.out)
  clear HO1_1
  clear BK200
  clear BK201
  clear BK202
  clear HB
  have HO1_1 := n0_
  have BK200 := n1_
  have BK201 := n2_
  have BK202 := n3_
  have HB := n4_
  clear n0_ n1_ n2_ n3_ n4_
  refine start_ (n := 5) (S := fun w' => w'.cell? ⟨gb200, 0, none⟩ = some (.bool a0_0) ∧ w'.cell? ⟨gb200, 1, none⟩ = some (.slice A0_1 l0_1.length c0_1) ∧ w'.cell? ⟨gb201, 0, none⟩ = some (.bool a1_0) ∧ w'.cell? ⟨gb201, 1, none⟩ = some (.slice A1_1 l1_1.length c1_1)) (ds := []) #[false, false, false, false, false] (by kernel_rfl) rfl rfl ⟨(blk_cell BK200.out 0).trans rfl, (blk_cell BK200.out 1).trans rfl, (blk_cell BK201.out 0).trans rfl, (blk_cell BK201.out 1).trans rfl⟩ (fun hHeld => ?_)
  generalize w7.drew = w8 at HO1_1 BK200 BK201 BK202 HB hHeld ⊢
  refine take_ (i := 0) (N := some 5) (v := ?_) (a' := ?_) #[true, false, false, false, false] rfl rfl (by kernel_rfl) (fun _ _ _ h => h) (Or.inl ⟨by rfl, ?_⟩) hHeld ?_ ?_
  rotate_left
  · rintro w' ⟨s0, s1, s2, s3⟩
    go_simp
    with_reducible rfl
  rotate_left
  · simp only [Act.put, List.setIfInBounds_toArray, List.set_cons_zero, List.set_cons_succ, i64_w, i32_w]
    rfl
  refine take_ (i := 1) (N := some 6) (v := ?_) (a' := ?_) #[true, true, false, false, false] rfl rfl (by kernel_rfl) (fun _ _ _ h => h) (Or.inl ⟨by rfl, ?_⟩) hHeld ?_ ?_
  rotate_left
  · rintro w' ⟨s0, s1, s2, s3⟩
    go_simp
    with_reducible rfl
  rotate_left
  · simp only [Act.put, List.setIfInBounds_toArray, List.set_cons_zero, List.set_cons_succ, i64_w, i32_w]
    rfl
  refine one_ (i := 2) (N := some 7) #[true, true, true, false, false] rfl rfl (by kernel_rfl) (by decide) (fun K hK => ?_)
  refine goes_ Try.func38 (by kernel_rfl) rfl #[.agg #[.bool a1_0, .slice A1_1 l1_1.length c1_1]] (by rfl) rfl rfl (by (try simp only [List.map_toArray, List.map_cons, List.map_nil]); first | done | rfl | (simp only [List.length_drop, List.length_take]; rfl)) ?_
  with_reducible refine (spec_Wide_Negated.calls k a1_0 (fun k_ => ((((P1_1_ k_ ∨ w.heap.size ≤ k_) ∧ k_ ≠ gb200) ∧ k_ ≠ gb201) ∧ k_ ≠ gb202)) _ _ l1_1 t203 t204 _ ?side1 A3.out).mono ?_
  (case side1 => exact HO1_1.out)
  rintro e w9 ⟨v205, rfl, ho0, hb⟩
  refine ⟨_, rfl, ?_⟩
  have n0_ := Aside0.mk (Kd.V_below (by (with_reducible repeat (first | apply Kd.V_alloc | apply Kd.V_drewN | apply Kd.V_drew)); exact HO1_1.out) hb)
  have n1_ := Aside0.mk (Kd.V_lower (Kd.V_mono (ok' := fun k_ => (P1_1_ k_ ∨ w.heap.size ≤ k_) ∧ k_ ≠ gb200 ∧ k_ ≠ gb201 ∧ k_ ≠ gb202) ho0 (fun k_ hk_ => ⟨Or.elim hk_ (fun hs_ => hs_.1.1.1) (fun hn_ => (.inr (Nat.le_trans (below_size (by repeat (first | (with_reducible first | exact HB.out | apply below_alloc | apply pw_below_drewN | apply below_drew1 | refine below_set ?_ GE200.out | refine below_set ?_ GE201.out | refine below_set ?_ GE202.out) | exact HB.out))) hn_))), Or.elim hk_ (fun hs_ => hs_.1.1.2) (fun hn_ => (Kd.freshB (g := gb200) (o := .cells #[.bool a0_0, .slice A0_1 l0_1.length c0_1] 27 (0, 0)) (by (with_reducible repeat (first | refine blk_drewN ?_ _ | refine blk_drew ?_ | refine blk_alloc ?_ _)); exact BK200.out) k_ hn_)), Or.elim hk_ (fun hs_ => hs_.1.2) (fun hn_ => (Kd.freshB (g := gb201) (o := .cells #[.bool a1_0, .slice A1_1 l1_1.length c1_1] 27 (0, 0)) (by (with_reducible repeat (first | refine blk_drewN ?_ _ | refine blk_drew ?_ | refine blk_alloc ?_ _)); exact BK201.out) k_ hn_)), Or.elim hk_ (fun hs_ => hs_.2) (fun hn_ => (Kd.freshB (g := gb202) (o := .cells #[.bool false, .slice none 0 0] 27 (0, 0)) (by (with_reducible repeat (first | refine blk_drewN ?_ _ | refine blk_drew ?_ | refine blk_alloc ?_ _)); exact BK202.out) k_ hn_))⟩)) (below_size (by repeat (first | (with_reducible first | exact HB.out | apply below_alloc | apply pw_below_drewN | apply below_drew1 | refine below_set ?_ GE200.out | refine below_set ?_ GE201.out | refine below_set ?_ GE202.out) | exact HB.out))))
  have n2_ := Aside0.mk (blk_below (g := gb200) (o := .cells #[.bool a0_0, .slice A0_1 l0_1.length c0_1] 27 (0, 0)) (by (with_reducible repeat (first | refine blk_drewN ?_ _ | refine blk_drew ?_ | refine blk_alloc ?_ _)); exact BK200.out) hb)
  have n3_ := Aside0.mk (blk_below (g := gb201) (o := .cells #[.bool a1_0, .slice A1_1 l1_1.length c1_1] 27 (0, 0)) (by (with_reducible repeat (first | refine blk_drewN ?_ _ | refine blk_drew ?_ | refine blk_alloc ?_ _)); exact BK201.out) hb)
  have n4_ := Aside0.mk (blk_below (g := gb202) (o := .cells #[.bool false, .slice none 0 0] 27 (0, 0)) (by (with_reducible repeat (first | refine blk_drewN ?_ _ | refine blk_drew ?_ | refine blk_alloc ?_ _)); exact BK202.out) hb)
  have n5_ := Aside0.mk (below_step (by repeat (first | (with_reducible first | exact HB.out | apply below_alloc | apply pw_below_drewN | apply below_drew1 | refine below_set ?_ GE200.out | refine below_set ?_ GE201.out | refine below_set ?_ GE202.out) | exact HB.out)) hb)
  clear HO1_1
  clear BK200
  clear BK201
  clear BK202
  clear HB
  have HO1_1 := n0_
  have HO206 := n1_
  have BK200 := n2_
  have BK201 := n3_
  have BK202 := n4_
  have HB := n5_
  clear n0_ n1_ n2_ n3_ n4_ n5_
  (try clear hb)
  (try clear hb2)
  (try clear hk)
  (try clear hi)
  (try clear ho0)
  obtain ⟨Ao10, co10, eo10⟩ := Kd.V_slice HO206.out
  (first | subst eo10 | (injection eo10 with f1_ f2_ f3_; have f4_ := f1_.symm; have f5_ := f3_.symm; clear f1_ f2_ f3_; subst f4_; subst f5_))
  refine hK.out _ _ ⟨(blk_cell BK200.out 0).trans rfl, (blk_cell BK200.out 1).trans rfl, (blk_cell BK201.out 0).trans rfl, (blk_cell BK201.out 1).trans rfl⟩ (fun hHeld => ?_)
  clear hK K
  refine norm_ (a' := ?_) ?_ ?_
  rotate_left
  · show Act.put _ (some 7) _ = _
    simp only [Act.put, List.setIfInBounds_toArray, List.set_cons_zero, List.set_cons_succ, i64_w, i32_w]
    rfl
  refine one_ (i := 3) (N := some 8) #[true, true, true, true, false] rfl rfl (by kernel_rfl) (by decide) (fun K hK => ?_)
  refine goes_ Try.func16 (by kernel_rfl) rfl #[.agg #[.bool a0_0, .slice A0_1 l0_1.length c0_1], .agg #[.bool t203, .slice Ao10 t204.length co10]] (by rfl) rfl rfl (by (try simp only [List.map_toArray, List.map_cons, List.map_nil]); first | done | rfl | (simp only [List.length_drop, List.length_take]; rfl)) ?_
  with_reducible refine (spec_WideAdd.calls k a0_0 _ _ l0_1 t203 _ _ t204 t207 t208 _ ?side1 ?side2 ?side3 ?side4 A4.out).mono ?_
  (case side1 => repeat (first | exact (Kd.C_below HR0_1.out HB.out) | (with_reducible refine Kd.C_alloc ?_ _) | (with_reducible refine Kd.C_drewN ?_ _) | (with_reducible refine Kd.C_drew ?_)))
  (case side2 => exact HC0_1.out)
  (case side3 => repeat (first | exact (Kd.V_reads' HO206.out).2.2 | (with_reducible refine Kd.C_alloc ?_ _) | (with_reducible refine Kd.C_drewN ?_ _) | (with_reducible refine Kd.C_drew ?_)))
  (case side4 => exact (Kd.V_reads' HO206.out).2.1)
  rintro e w11 ⟨v209, rfl, ho0, hb⟩
  refine ⟨_, rfl, ?_⟩
  have n0_ := Aside0.mk (Kd.V_below (by (with_reducible repeat (first | apply Kd.V_alloc | apply Kd.V_drewN | apply Kd.V_drew)); exact HO1_1.out) hb)
  have n1_ := Aside0.mk (Kd.V_below (by (with_reducible repeat (first | apply Kd.V_alloc | apply Kd.V_drewN | apply Kd.V_drew)); exact HO206.out) hb)
  have n2_ := Aside0.mk (Kd.V_lower (Kd.V_mono (ok' := fun k_ => (P1_1_ k_ ∨ w.heap.size ≤ k_) ∧ k_ ≠ gb200 ∧ k_ ≠ gb201 ∧ k_ ≠ gb202) ho0 (fun k_ hk_ => ⟨(.inr (Nat.le_trans (below_size (by repeat (first | (with_reducible first | exact HB.out | apply below_alloc | apply pw_below_drewN | apply below_drew1 | refine below_set ?_ GE200.out | refine below_set ?_ GE201.out | refine below_set ?_ GE202.out) | exact HB.out))) hk_)), (Kd.freshB (g := gb200) (o := .cells #[.bool a0_0, .slice A0_1 l0_1.length c0_1] 27 (0, 0)) (by (with_reducible repeat (first | refine blk_drewN ?_ _ | refine blk_drew ?_ | refine blk_alloc ?_ _)); exact BK200.out) k_ hk_), (Kd.freshB (g := gb201) (o := .cells #[.bool a1_0, .slice A1_1 l1_1.length c1_1] 27 (0, 0)) (by (with_reducible repeat (first | refine blk_drewN ?_ _ | refine blk_drew ?_ | refine blk_alloc ?_ _)); exact BK201.out) k_ hk_), (Kd.freshB (g := gb202) (o := .cells #[.bool false, .slice none 0 0] 27 (0, 0)) (by (with_reducible repeat (first | refine blk_drewN ?_ _ | refine blk_drew ?_ | refine blk_alloc ?_ _)); exact BK202.out) k_ hk_)⟩)) (below_size (by repeat (first | (with_reducible first | exact HB.out | apply below_alloc | apply pw_below_drewN | apply below_drew1 | refine below_set ?_ GE200.out | refine below_set ?_ GE201.out | refine below_set ?_ GE202.out) | exact HB.out))))
  have n3_ := Aside0.mk (blk_below (g := gb200) (o := .cells #[.bool a0_0, .slice A0_1 l0_1.length c0_1] 27 (0, 0)) (by (with_reducible repeat (first | refine blk_drewN ?_ _ | refine blk_drew ?_ | refine blk_alloc ?_ _)); exact BK200.out) hb)
  have n4_ := Aside0.mk (blk_below (g := gb201) (o := .cells #[.bool a1_0, .slice A1_1 l1_1.length c1_1] 27 (0, 0)) (by (with_reducible repeat (first | refine blk_drewN ?_ _ | refine blk_drew ?_ | refine blk_alloc ?_ _)); exact BK201.out) hb)
  have n5_ := Aside0.mk (blk_below (g := gb202) (o := .cells #[.bool false, .slice none 0 0] 27 (0, 0)) (by (with_reducible repeat (first | refine blk_drewN ?_ _ | refine blk_drew ?_ | refine blk_alloc ?_ _)); exact BK202.out) hb)
  have n6_ := Aside0.mk (below_step (by repeat (first | (with_reducible first | exact HB.out | apply below_alloc | apply pw_below_drewN | apply below_drew1 | refine below_set ?_ GE200.out | refine below_set ?_ GE201.out | refine below_set ?_ GE202.out) | exact HB.out)) hb)
  clear HO1_1
  clear HO206
  clear BK200
  clear BK201
  clear BK202
  clear HB
  have HO1_1 := n0_
  have HO206 := n1_
  have HO210 := n2_
  have BK200 := n3_
  have BK201 := n4_
  have BK202 := n5_
  have HB := n6_
  clear n0_ n1_ n2_ n3_ n4_ n5_ n6_
  (try clear hb)
  (try clear hb2)
  (try clear hk)
  (try clear hi)
  (try clear ho0)
  obtain ⟨Ao13, co13, eo13⟩ := Kd.V_slice HO210.out
  (first | subst eo13 | (injection eo13 with f1_ f2_ f3_; have f4_ := f1_.symm; have f5_ := f3_.symm; clear f1_ f2_ f3_; subst f4_; subst f5_))
  refine hK.out _ _ ⟨(blk_cell BK200.out 0).trans rfl, (blk_cell BK200.out 1).trans rfl, (blk_cell BK201.out 0).trans rfl, (blk_cell BK201.out 1).trans rfl⟩ (fun hHeld => ?_)
  clear hK K
  refine norm_ (a' := ?_) ?_ ?_
  rotate_left
  · show Act.put _ (some 8) _ = _
    simp only [Act.put, List.setIfInBounds_toArray, List.set_cons_zero, List.set_cons_succ, i64_w, i32_w]
    rfl
  refine one_ (i := 4) (N := none) #[true, true, true, true, true] rfl rfl (by kernel_rfl) (by decide) (fun K hK => ?_)
  have hs12 : w11.cell? ⟨gb202, 0, none⟩ = some (.bool false) := (blk_cell BK202.out 0).trans rfl
  have hfs12 := blk_frozen BK202.out 0
  have hns12_0 := NB200_202.out
  have hns12_1 := NB201_202.out
  have hms12_0 := NB202_200.out
  have hms12_1 := NB202_201.out
  have hs14 : w11.cell? ⟨gb202, 1, none⟩ = some (.slice none 0 0) := (blk_cell BK202.out 1).trans rfl
  have hfs14 := blk_frozen BK202.out 1
  have hns14_0 := NB200_202.out
  have hns14_1 := NB201_202.out
  have hms14_0 := NB202_200.out
  have hms14_1 := NB202_201.out
  refine skip_ (w1 := ?_) (by rfl) rfl ?_ ?_
  rotate_left
  · go_simp
    rfl
  refine hK.out _ _ ⟨((cell_far (p := ⟨gb202, _, none⟩) NB200_202.out _).trans (((cell_far (p := ⟨gb202, _, none⟩) NB200_202.out _).trans (hHeld.1)))), ((cell_far (p := ⟨gb202, _, none⟩) NB200_202.out _).trans (((cell_far (p := ⟨gb202, _, none⟩) NB200_202.out _).trans (hHeld.2.1)))), ((cell_far (p := ⟨gb202, _, none⟩) NB201_202.out _).trans (((cell_far (p := ⟨gb202, _, none⟩) NB201_202.out _).trans (hHeld.2.2.1)))), ((cell_far (p := ⟨gb202, _, none⟩) NB201_202.out _).trans (((cell_far (p := ⟨gb202, _, none⟩) NB201_202.out _).trans (hHeld.2.2.2))))⟩ (fun hHeld => ?_)
  clear hK K
  refine done_ (by kernel_rfl) ?_
  try go_wp2
  refine bodyPost_ret (results_cell_row rfl _ _ gb202 27 #[.bool t207, .slice Ao13 t208.length co13] (0, 0) _ rfl (by (with_reducible repeat (first | refine blk_drewN ?_ _ | refine blk_drew ?_ | refine blk_alloc ?_ _)); refine blk_put (cs := #[.bool t207, .slice none 0 0]) ?_ 1 _ rfl; (with_reducible repeat (first | refine blk_drewN ?_ _ | refine blk_drew ?_ | refine blk_alloc ?_ _)); refine blk_put (cs := #[.bool false, .slice none 0 0]) ?_ 0 _ rfl; (with_reducible repeat (first | refine blk_drewN ?_ _ | refine blk_drew ?_ | refine blk_alloc ?_ _)); exact BK202.out) Try.underlying27 rfl (by kernel_rfl)) rfl ?_
  exact ⟨_, by first | rfl | (simp [errW_none, errW_some] <;> rfl) | (simp [*, errW_none, errW_some] <;> rfl), by (with_reducible repeat (first | apply Kd.V_alloc | apply Kd.V_drewN | apply Kd.V_drew)); exact Kd.V_mono (Kd.V_far (p := ⟨gb202, 1, none⟩) (Kd.V_far (p := ⟨gb202, 0, none⟩) (Kd.V_mono HO210.out (fun k_ hk => (⟨hk, hk.2.2.2⟩ : _ ∧ k_ ≠ gb202))) (fun _ hk => hk.2) (.bool t207)) (fun _ hk => hk.2) (.slice Ao13 t208.length co13)) (fun _ hk => hk.1.1), by repeat (first | (with_reducible first | exact HB.out | apply below_alloc | apply pw_below_drewN | apply below_drew1 | refine below_set ?_ GE200.out | refine below_set ?_ GE201.out | refine below_set ?_ GE202.out) | exact HB.out)⟩

/-! ### laws_bounds: function 25 -/
def laws_bounds.f (k : Nat) (a0 : Int) (a1 : Bool) : Option (Bool × List Int × Bool × List Int) := if a1 = true then ((spec_Two.f k (wrap64 (a0 - 1))).bind fun bt213 => ((spec_Wide_Negated.f k bt213.1 bt213.2).bind fun bt217 => ((spec_Two.f k (wrap64 (a0 - 1))).bind fun bt221 => ((spec_WideInt.f k 1).bind fun bt225 => ((spec_WideSub.f k bt221.1 bt221.2 bt225.1 bt225.2).bind fun bt229 => (some (bt217.1, bt217.2, bt229.1, bt229.2))))))) else ((spec_Two.f k a0).bind fun bt233 => ((spec_WideInt.f k 1).bind fun bt237 => ((spec_WideSub.f k bt233.1 bt233.2 bt237.1 bt237.2).bind fun bt241 => (some (false, ([] : List Int), bt241.1, bt241.2)))))
theorem laws_bounds.mono : ∀ a0 a1 k, LeO (laws_bounds.f k a0 a1) (laws_bounds.f (k + 1) a0 a1) := by
  intro a0 a1 k
  unfold laws_bounds.f
  repeat' first
      | (with_reducible exact spec_Two.mono _ _)
      | (with_reducible exact spec_WideInt.mono _ _)
      | (with_reducible exact spec_WideSub.mono _ _ _ _ _)
      | (with_reducible exact spec_Wide_Negated.mono _ _ _)
      | (with_reducible exact LeO.refl _)
      | (with_reducible exact LeO.none _)
      | (with_reducible refine LeO.ite ?_ ?_)
      | (with_reducible refine LeO.bind ?_ (fun _ => ?_))
      | exact spec_Two.mono _ _
      | exact spec_WideInt.mono _ _
      | exact spec_WideSub.mono _ _ _ _ _
      | exact spec_Wide_Negated.mono _ _ _
      | exact LeO.none _
      | refine LeO.ite ?_ ?_
      | refine LeO.bind ?_ (fun _ => ?_)
set_option maxHeartbeats 8000000 in
set_option maxRecDepth 100000 in
theorem laws_bounds.calls (k : Nat) (a0 : Int) (a1 : Bool) (r1 : Bool) (r2 : List Int) (r3 : Bool) (r4 : List Int) (w : World) (h : laws_bounds.f k a0 a1 = some (r1, r2, r3, r4)) :
    Calls Try.prog 25 #[.int .i64 a0, .bool a1] w fun e w' => ∃ v1_ v3_ : Value, e = .returned (.tuple #[.agg #[.bool r1, v1_], .agg #[.bool r3, v3_]]) ∧ Kd.V (Kd.int .u32) 44 w' w.heap.size (fun k_ => (w.heap.size ≤ k_)) v1_ r2 ∧ Kd.V (Kd.int .u32) 44 w' w.heap.size (fun k_ => (w.heap.size ≤ k_)) v3_ r4 ∧ Below w.heap.size w w' := by
  have hu27 := Try.underlying27
  have HB := Aside0.mk (Below.refl w.heap.size w)
  have H : (if a1 = true then ((spec_Two.f k (wrap64 (a0 - 1))).bind fun bt213 => ((spec_Wide_Negated.f k bt213.1 bt213.2).bind fun bt217 => ((spec_Two.f k (wrap64 (a0 - 1))).bind fun bt221 => ((spec_WideInt.f k 1).bind fun bt225 => ((spec_WideSub.f k bt221.1 bt221.2 bt225.1 bt225.2).bind fun bt229 => (some (bt217.1, bt217.2, bt229.1, bt229.2))))))) else ((spec_Two.f k a0).bind fun bt233 => ((spec_WideInt.f k 1).bind fun bt237 => ((spec_WideSub.f k bt233.1 bt233.2 bt237.1 bt237.2).bind fun bt241 => (some (false, ([] : List Int), bt241.1, bt241.2)))))) = some (r1, r2, r3, r4) := h
  clear h
  by_cases c3 : a1 = true
  · subst c3
    have H1 : ((spec_Two.f k (wrap64 (a0 - 1))).bind fun bt213 => ((spec_Wide_Negated.f k bt213.1 bt213.2).bind fun bt217 => ((spec_Two.f k (wrap64 (a0 - 1))).bind fun bt221 => ((spec_WideInt.f k 1).bind fun bt225 => ((spec_WideSub.f k bt221.1 bt221.2 bt225.1 bt225.2).bind fun bt229 => (some (bt217.1, bt217.2, bt229.1, bt229.2))))))) = some (r1, r2, r3, r4) := by rw [if_pos rfl] at H; exact H
    clear H
    have H := H1
    clear H1
    replace H := Option.bind_eq_some_iff.mp H
    obtain ⟨⟨t213, t214⟩, A40, H⟩ := H
    replace H : ((spec_Wide_Negated.f k t213 t214).bind fun bt217 => ((spec_Two.f k (wrap64 (a0 - 1))).bind fun bt221 => ((spec_WideInt.f k 1).bind fun bt225 => ((spec_WideSub.f k bt221.1 bt221.2 bt225.1 bt225.2).bind fun bt229 => (some (bt217.1, bt217.2, bt229.1, bt229.2)))))) = some (r1, r2, r3, r4) := H
    have A4 := Aside0.mk A40
    clear A40
    replace H := Option.bind_eq_some_iff.mp H
    obtain ⟨⟨t217, t218⟩, A50, H⟩ := H
    replace H : ((spec_Two.f k (wrap64 (a0 - 1))).bind fun bt221 => ((spec_WideInt.f k 1).bind fun bt225 => ((spec_WideSub.f k bt221.1 bt221.2 bt225.1 bt225.2).bind fun bt229 => (some (t217, t218, bt229.1, bt229.2))))) = some (r1, r2, r3, r4) := H
    have A5 := Aside0.mk A50
    clear A50
    replace H := Option.bind_eq_some_iff.mp H
    obtain ⟨⟨t221, t222⟩, A60, H⟩ := H
    replace H : ((spec_WideInt.f k 1).bind fun bt225 => ((spec_WideSub.f k t221 t222 bt225.1 bt225.2).bind fun bt229 => (some (t217, t218, bt229.1, bt229.2)))) = some (r1, r2, r3, r4) := H
    have A6 := Aside0.mk A60
    clear A60
    replace H := Option.bind_eq_some_iff.mp H
    obtain ⟨⟨t225, t226⟩, A70, H⟩ := H
    replace H : ((spec_WideSub.f k t221 t222 t225 t226).bind fun bt229 => (some (t217, t218, bt229.1, bt229.2))) = some (r1, r2, r3, r4) := H
    have A7 := Aside0.mk A70
    clear A70
    replace H := Option.bind_eq_some_iff.mp H
    obtain ⟨⟨t229, t230⟩, A80, H⟩ := H
    replace H : (some (t217, t218, t229, t230)) = some (r1, r2, r3, r4) := H
    have A8 := Aside0.mk A80
    clear A80
    simp only [Option.some.injEq, Prod.mk.injEq] at H
    obtain ⟨rfl, rfl, rfl, rfl⟩ := H
    go_enter Try.func25, Try.ntmps25
    go_wp2_with (first | ((with_reducible refine gate_dst (N := 4) rfl ?_); refine box_event ?hg (N := 4) ?hd (cs := #[.bool false, .slice none 0 0]) (t := 27) ?hr ?_; (case hd => rfl); (case hg => rfl); (case hr => first | (go_simp; done) | (go_simp; rfl)); intro gb211 hg w9 hbox hb; have n0_ := Aside0.mk (below_step (by repeat (first | (with_reducible first | exact HB.out | apply below_alloc | apply pw_below_drewN | apply below_drew1) | exact HB.out)) hb); have n1_ := Aside0.mk (hbox); have n2_ := Aside0.mk ((by rw [hg]; exact (below_size (by repeat (first | (with_reducible first | exact HB.out | apply below_alloc | apply pw_below_drewN | apply below_drew1) | exact HB.out))) : w.heap.size ≤ gb211)); have n3_ := Aside0.mk ((by rw [hg]; exact (below_size (by repeat (first | (with_reducible first | exact HB.out | apply below_alloc | apply pw_below_drewN | apply below_drew1) | exact HB.out))) : w.heap.size ≤ gb211)); clear HB; have HB := n0_; have BK211 := n1_; have GW211 := n2_; have GE211 := n3_; clear n0_ n1_ n2_ n3_; clear hb hbox hg) | ((with_reducible refine gate_dst (N := 5) rfl ?_); refine box_event ?hg (N := 5) ?hd (cs := #[.bool false, .slice none 0 0]) (t := 27) ?hr ?_; (case hd => rfl); (case hg => rfl); (case hr => first | (go_simp; done) | (go_simp; rfl)); intro gb212 hg w10 hbox hb; have n0_ := Aside0.mk (blk_below (g := gb211) (o := .cells #[.bool false, .slice none 0 0] 27 (0, 0)) (by (with_reducible repeat (first | refine blk_drewN ?_ _ | refine blk_drew ?_ | refine blk_alloc ?_ _)); exact BK211.out) hb); have n1_ := Aside0.mk (below_step (by repeat (first | (with_reducible first | exact HB.out | apply below_alloc | apply pw_below_drewN | apply below_drew1 | refine below_set ?_ GE211.out) | exact HB.out)) hb); have n2_ := Aside0.mk (hbox); have n3_ := Aside0.mk ((by rw [hg]; exact (below_size (by repeat (first | (with_reducible first | exact HB.out | apply below_alloc | apply pw_below_drewN | apply below_drew1 | refine below_set ?_ GE211.out) | exact HB.out))) : w.heap.size ≤ gb212)); have n4_ := Aside0.mk ((by rw [hg]; exact (below_size (by repeat (first | (with_reducible first | exact HB.out | apply below_alloc | apply pw_below_drewN | apply below_drew1 | refine below_set ?_ GE211.out) | exact HB.out))) : w.heap.size ≤ gb212)); have n5_ := Aside0.mk ((by rw [hg]; exact Nat.ne_of_lt (blk_lt (g := gb211) (o := .cells #[.bool false, .slice none 0 0] 27 (0, 0)) (by (with_reducible repeat (first | refine blk_drewN ?_ _ | refine blk_drew ?_ | refine blk_alloc ?_ _)); exact BK211.out)) : gb211 ≠ gb212)); have n6_ := Aside0.mk ((by rw [hg]; exact Nat.ne_of_gt (blk_lt (g := gb211) (o := .cells #[.bool false, .slice none 0 0] 27 (0, 0)) (by (with_reducible repeat (first | refine blk_drewN ?_ _ | refine blk_drew ?_ | refine blk_alloc ?_ _)); exact BK211.out)) : gb212 ≠ gb211)); clear BK211; clear HB; have BK211 := n0_; have HB := n1_; have BK212 := n2_; have GW212 := n3_; have GE212 := n4_; have NB211_212 := n5_; have NB212_211 := n6_; clear n0_ n1_ n2_ n3_ n4_ n5_ n6_; clear hb hbox hg) | ((with_reducible refine gate_callee (f := 36) rfl ?_); refine goesL_ (some 9) rfl rfl Try.func36 (by kernel_rfl) rfl #[.int .i64 (wrap64 (a0 - 1))] rfl (by (try simp only [List.map_toArray, List.map_cons, List.map_nil]); first | done | rfl | (simp only [List.length_drop, List.length_take]; rfl)) ?_; (with_reducible refine (spec_Two.calls k (wrap64 (a0 - 1)) t213 t214 _ A4.out).mono ?_); rintro e w11 ⟨v215, rfl, ho0, hb⟩; refine ⟨_, rfl, ?_⟩; have n0_ := Aside0.mk (Kd.V_lower (Kd.V_mono (ok' := fun k_ => (w.heap.size ≤ k_) ∧ k_ ≠ gb211 ∧ k_ ≠ gb212) ho0 (fun k_ hk_ => ⟨(Nat.le_trans (below_size (by repeat (first | (with_reducible first | exact HB.out | apply below_alloc | apply pw_below_drewN | apply below_drew1 | refine below_set ?_ GE211.out | refine below_set ?_ GE212.out) | exact HB.out))) hk_), (Kd.freshB (g := gb211) (o := .cells #[.bool false, .slice none 0 0] 27 (0, 0)) (by (with_reducible repeat (first | refine blk_drewN ?_ _ | refine blk_drew ?_ | refine blk_alloc ?_ _)); exact BK211.out) k_ hk_), (Kd.freshB (g := gb212) (o := .cells #[.bool false, .slice none 0 0] 27 (0, 0)) (by (with_reducible repeat (first | refine blk_drewN ?_ _ | refine blk_drew ?_ | refine blk_alloc ?_ _)); exact BK212.out) k_ hk_)⟩)) (below_size (by repeat (first | (with_reducible first | exact HB.out | apply below_alloc | apply pw_below_drewN | apply below_drew1 | refine below_set ?_ GE211.out | refine below_set ?_ GE212.out) | exact HB.out)))); have n1_ := Aside0.mk (blk_below (g := gb211) (o := .cells #[.bool false, .slice none 0 0] 27 (0, 0)) (by (with_reducible repeat (first | refine blk_drewN ?_ _ | refine blk_drew ?_ | refine blk_alloc ?_ _)); exact BK211.out) hb); have n2_ := Aside0.mk (blk_below (g := gb212) (o := .cells #[.bool false, .slice none 0 0] 27 (0, 0)) (by (with_reducible repeat (first | refine blk_drewN ?_ _ | refine blk_drew ?_ | refine blk_alloc ?_ _)); exact BK212.out) hb); have n3_ := Aside0.mk (below_step (by repeat (first | (with_reducible first | exact HB.out | apply below_alloc | apply pw_below_drewN | apply below_drew1 | refine below_set ?_ GE211.out | refine below_set ?_ GE212.out) | exact HB.out)) hb); clear BK211; clear BK212; clear HB; have HO216 := n0_; have BK211 := n1_; have BK212 := n2_; have HB := n3_; clear n0_ n1_ n2_ n3_; (try clear hb); (try clear hb2); (try clear hk); (try clear hi); (try clear ho0); obtain ⟨Ao12, co12, eo12⟩ := Kd.V_slice HO216.out; subst eo12) | ((with_reducible refine gate_callee (f := 38) rfl ?_); refine goesL_ (some 10) rfl rfl Try.func38 (by kernel_rfl) rfl #[.agg #[.bool t213, .slice Ao12 t214.length co12]] rfl (by (try simp only [List.map_toArray, List.map_cons, List.map_nil]); first | done | rfl | (simp only [List.length_drop, List.length_take]; rfl)) ?_; (with_reducible refine (spec_Wide_Negated.calls k t213 (fun k_ => ((w.heap.size ≤ k_) ∧ (k_ ≠ gb211 ∧ k_ ≠ gb212))) _ _ t214 t217 t218 _ ?side1 A5.out).mono ?_); (case side1 => exact HO216.out); rintro e w13 ⟨v219, rfl, ho0, hb⟩; refine ⟨_, rfl, ?_⟩; have n0_ := Aside0.mk (Kd.V_below (by (with_reducible repeat (first | apply Kd.V_alloc | apply Kd.V_drewN | apply Kd.V_drew)); exact HO216.out) hb); have n1_ := Aside0.mk (Kd.V_lower (Kd.V_mono (ok' := fun k_ => (w.heap.size ≤ k_) ∧ k_ ≠ gb211 ∧ k_ ≠ gb212) ho0 (fun k_ hk_ => ⟨Or.elim hk_ (fun hs_ => hs_.1) (fun hn_ => (Nat.le_trans (below_size (by repeat (first | (with_reducible first | exact HB.out | apply below_alloc | apply pw_below_drewN | apply below_drew1 | refine below_set ?_ GE211.out | refine below_set ?_ GE212.out) | exact HB.out))) hn_)), Or.elim hk_ (fun hs_ => hs_.2.1) (fun hn_ => (Kd.freshB (g := gb211) (o := .cells #[.bool false, .slice none 0 0] 27 (0, 0)) (by (with_reducible repeat (first | refine blk_drewN ?_ _ | refine blk_drew ?_ | refine blk_alloc ?_ _)); exact BK211.out) k_ hn_)), Or.elim hk_ (fun hs_ => hs_.2.2) (fun hn_ => (Kd.freshB (g := gb212) (o := .cells #[.bool false, .slice none 0 0] 27 (0, 0)) (by (with_reducible repeat (first | refine blk_drewN ?_ _ | refine blk_drew ?_ | refine blk_alloc ?_ _)); exact BK212.out) k_ hn_))⟩)) (below_size (by repeat (first | (with_reducible first | exact HB.out | apply below_alloc | apply pw_below_drewN | apply below_drew1 | refine below_set ?_ GE211.out | refine below_set ?_ GE212.out) | exact HB.out)))); have n2_ := Aside0.mk (blk_below (g := gb211) (o := .cells #[.bool false, .slice none 0 0] 27 (0, 0)) (by (with_reducible repeat (first | refine blk_drewN ?_ _ | refine blk_drew ?_ | refine blk_alloc ?_ _)); exact BK211.out) hb); have n3_ := Aside0.mk (blk_below (g := gb212) (o := .cells #[.bool false, .slice none 0 0] 27 (0, 0)) (by (with_reducible repeat (first | refine blk_drewN ?_ _ | refine blk_drew ?_ | refine blk_alloc ?_ _)); exact BK212.out) hb); have n4_ := Aside0.mk (below_step (by repeat (first | (with_reducible first | exact HB.out | apply below_alloc | apply pw_below_drewN | apply below_drew1 | refine below_set ?_ GE211.out | refine below_set ?_ GE212.out) | exact HB.out)) hb); clear HO216; clear BK211; clear BK212; clear HB; have HO216 := n0_; have HO220 := n1_; have BK211 := n2_; have BK212 := n3_; have HB := n4_; clear n0_ n1_ n2_ n3_ n4_; (try clear hb); (try clear hb2); (try clear hk); (try clear hi); (try clear ho0)) | ((with_reducible refine gate_callee (f := 36) rfl ?_); refine goesL_ (some 13) rfl rfl Try.func36 (by kernel_rfl) rfl #[.int .i64 (wrap64 (a0 - 1))] rfl (by (try simp only [List.map_toArray, List.map_cons, List.map_nil]); first | done | rfl | (simp only [List.length_drop, List.length_take]; rfl)) ?_; (with_reducible refine (spec_Two.calls k (wrap64 (a0 - 1)) t221 t222 _ A6.out).mono ?_); rintro e w14 ⟨v223, rfl, ho0, hb⟩; refine ⟨_, rfl, ?_⟩; have n0_ := Aside0.mk (Kd.V_below (by (with_reducible repeat (first | apply Kd.V_alloc | apply Kd.V_drewN | apply Kd.V_drew)); exact HO216.out) hb); have n1_ := Aside0.mk (Kd.V_below (by (with_reducible repeat (first | apply Kd.V_alloc | apply Kd.V_drewN | apply Kd.V_drew)); exact HO220.out) hb); have n2_ := Aside0.mk (Kd.V_lower (Kd.V_mono (ok' := fun k_ => (w.heap.size ≤ k_) ∧ k_ ≠ gb211 ∧ k_ ≠ gb212) ho0 (fun k_ hk_ => ⟨(Nat.le_trans (below_size (by repeat (first | (with_reducible first | exact HB.out | apply below_alloc | apply pw_below_drewN | apply below_drew1 | refine below_set ?_ GE211.out | refine below_set ?_ GE212.out) | exact HB.out))) hk_), (Kd.freshB (g := gb211) (o := .cells #[.bool false, .slice none 0 0] 27 (0, 0)) (by (with_reducible repeat (first | refine blk_drewN ?_ _ | refine blk_drew ?_ | refine blk_alloc ?_ _)); exact BK211.out) k_ hk_), (Kd.freshB (g := gb212) (o := .cells #[.bool false, .slice none 0 0] 27 (0, 0)) (by (with_reducible repeat (first | refine blk_drewN ?_ _ | refine blk_drew ?_ | refine blk_alloc ?_ _)); exact BK212.out) k_ hk_)⟩)) (below_size (by repeat (first | (with_reducible first | exact HB.out | apply below_alloc | apply pw_below_drewN | apply below_drew1 | refine below_set ?_ GE211.out | refine below_set ?_ GE212.out) | exact HB.out)))); have n3_ := Aside0.mk (blk_below (g := gb211) (o := .cells #[.bool false, .slice none 0 0] 27 (0, 0)) (by (with_reducible repeat (first | refine blk_drewN ?_ _ | refine blk_drew ?_ | refine blk_alloc ?_ _)); exact BK211.out) hb); have n4_ := Aside0.mk (blk_below (g := gb212) (o := .cells #[.bool false, .slice none 0 0] 27 (0, 0)) (by (with_reducible repeat (first | refine blk_drewN ?_ _ | refine blk_drew ?_ | refine blk_alloc ?_ _)); exact BK212.out) hb); have n5_ := Aside0.mk (below_step (by repeat (first | (with_reducible first | exact HB.out | apply below_alloc | apply pw_below_drewN | apply below_drew1 | refine below_set ?_ GE211.out | refine below_set ?_ GE212.out) | exact HB.out)) hb); clear HO216; clear HO220; clear BK211; clear BK212; clear HB; have HO216 := n0_; have HO220 := n1_; have HO224 := n2_; have BK211 := n3_; have BK212 := n4_; have HB := n5_; clear n0_ n1_ n2_ n3_ n4_ n5_; (try clear hb); (try clear hb2); (try clear hk); (try clear hi); (try clear ho0)) | ((with_reducible refine gate_callee (f := 17) rfl ?_); refine goesL_ (some 14) rfl rfl Try.func17 (by kernel_rfl) rfl #[.int .i64 1] rfl (by (try simp only [List.map_toArray, List.map_cons, List.map_nil]); first | done | rfl | (simp only [List.length_drop, List.length_take]; rfl)) ?_; (with_reducible refine (spec_WideInt.calls k 1 t225 t226 _ A7.out).mono ?_); rintro e w15 ⟨v227, rfl, ho0, hb⟩; refine ⟨_, rfl, ?_⟩; have n0_ := Aside0.mk (Kd.V_below (by (with_reducible repeat (first | apply Kd.V_alloc | apply Kd.V_drewN | apply Kd.V_drew)); exact HO216.out) hb); have n1_ := Aside0.mk (Kd.V_below (by (with_reducible repeat (first | apply Kd.V_alloc | apply Kd.V_drewN | apply Kd.V_drew)); exact HO220.out) hb); have n2_ := Aside0.mk (Kd.V_below (by (with_reducible repeat (first | apply Kd.V_alloc | apply Kd.V_drewN | apply Kd.V_drew)); exact HO224.out) hb); have n3_ := Aside0.mk (Kd.V_lower (Kd.V_mono (ok' := fun k_ => (w.heap.size ≤ k_) ∧ k_ ≠ gb211 ∧ k_ ≠ gb212) ho0 (fun k_ hk_ => ⟨(Nat.le_trans (below_size (by repeat (first | (with_reducible first | exact HB.out | apply below_alloc | apply pw_below_drewN | apply below_drew1 | refine below_set ?_ GE211.out | refine below_set ?_ GE212.out) | exact HB.out))) hk_), (Kd.freshB (g := gb211) (o := .cells #[.bool false, .slice none 0 0] 27 (0, 0)) (by (with_reducible repeat (first | refine blk_drewN ?_ _ | refine blk_drew ?_ | refine blk_alloc ?_ _)); exact BK211.out) k_ hk_), (Kd.freshB (g := gb212) (o := .cells #[.bool false, .slice none 0 0] 27 (0, 0)) (by (with_reducible repeat (first | refine blk_drewN ?_ _ | refine blk_drew ?_ | refine blk_alloc ?_ _)); exact BK212.out) k_ hk_)⟩)) (below_size (by repeat (first | (with_reducible first | exact HB.out | apply below_alloc | apply pw_below_drewN | apply below_drew1 | refine below_set ?_ GE211.out | refine below_set ?_ GE212.out) | exact HB.out)))); have n4_ := Aside0.mk (blk_below (g := gb211) (o := .cells #[.bool false, .slice none 0 0] 27 (0, 0)) (by (with_reducible repeat (first | refine blk_drewN ?_ _ | refine blk_drew ?_ | refine blk_alloc ?_ _)); exact BK211.out) hb); have n5_ := Aside0.mk (blk_below (g := gb212) (o := .cells #[.bool false, .slice none 0 0] 27 (0, 0)) (by (with_reducible repeat (first | refine blk_drewN ?_ _ | refine blk_drew ?_ | refine blk_alloc ?_ _)); exact BK212.out) hb); have n6_ := Aside0.mk (below_step (by repeat (first | (with_reducible first | exact HB.out | apply below_alloc | apply pw_below_drewN | apply below_drew1 | refine below_set ?_ GE211.out | refine below_set ?_ GE212.out) | exact HB.out)) hb); clear HO216; clear HO220; clear HO224; clear BK211; clear BK212; clear HB; have HO216 := n0_; have HO220 := n1_; have HO224 := n2_; have HO228 := n3_; have BK211 := n4_; have BK212 := n5_; have HB := n6_; clear n0_ n1_ n2_ n3_ n4_ n5_ n6_; (try clear hb); (try clear hb2); (try clear hk); (try clear hi); (try clear ho0); obtain ⟨Ao16, co16, eo16⟩ := Kd.V_slice HO224.out; subst eo16; obtain ⟨Ao17, co17, eo17⟩ := Kd.V_slice HO228.out; subst eo17) | ((with_reducible refine gate_callee (f := 54) rfl ?_); refine goesL_ (some 15) rfl rfl Try.func54 (by kernel_rfl) rfl #[.agg #[.bool t221, .slice Ao16 t222.length co16], .agg #[.bool t225, .slice Ao17 t226.length co17]] rfl (by (try simp only [List.map_toArray, List.map_cons, List.map_nil]); first | done | rfl | (simp only [List.length_drop, List.length_take]; rfl)) ?_; (with_reducible refine (spec_WideSub.calls k t221 _ _ t222 t225 (fun k_ => ((w.heap.size ≤ k_) ∧ (k_ ≠ gb211 ∧ k_ ≠ gb212))) _ _ t226 t229 t230 _ ?side1 ?side2 ?side3 A8.out).mono ?_); (case side1 => repeat (first | exact (Kd.V_reads' HO224.out).2.2 | (with_reducible refine Kd.C_alloc ?_ _) | (with_reducible refine Kd.C_drewN ?_ _) | (with_reducible refine Kd.C_drew ?_))); (case side2 => exact (Kd.V_reads' HO224.out).2.1); (case side3 => exact HO228.out); rintro e w18 ⟨v231, rfl, ho0, hb⟩; refine ⟨_, rfl, ?_⟩; have n0_ := Aside0.mk (Kd.V_below (by (with_reducible repeat (first | apply Kd.V_alloc | apply Kd.V_drewN | apply Kd.V_drew)); exact HO216.out) hb); have n1_ := Aside0.mk (Kd.V_below (by (with_reducible repeat (first | apply Kd.V_alloc | apply Kd.V_drewN | apply Kd.V_drew)); exact HO220.out) hb); have n2_ := Aside0.mk (Kd.V_below (by (with_reducible repeat (first | apply Kd.V_alloc | apply Kd.V_drewN | apply Kd.V_drew)); exact HO224.out) hb); have n3_ := Aside0.mk (Kd.V_below (by (with_reducible repeat (first | apply Kd.V_alloc | apply Kd.V_drewN | apply Kd.V_drew)); exact HO228.out) hb); have n4_ := Aside0.mk (Kd.V_lower (Kd.V_mono (ok' := fun k_ => (w.heap.size ≤ k_) ∧ k_ ≠ gb211 ∧ k_ ≠ gb212) ho0 (fun k_ hk_ => ⟨Or.elim hk_ (fun hs_ => hs_.1) (fun hn_ => (Nat.le_trans (below_size (by repeat (first | (with_reducible first | exact HB.out | apply below_alloc | apply pw_below_drewN | apply below_drew1 | refine below_set ?_ GE211.out | refine below_set ?_ GE212.out) | exact HB.out))) hn_)), Or.elim hk_ (fun hs_ => hs_.2.1) (fun hn_ => (Kd.freshB (g := gb211) (o := .cells #[.bool false, .slice none 0 0] 27 (0, 0)) (by (with_reducible repeat (first | refine blk_drewN ?_ _ | refine blk_drew ?_ | refine blk_alloc ?_ _)); exact BK211.out) k_ hn_)), Or.elim hk_ (fun hs_ => hs_.2.2) (fun hn_ => (Kd.freshB (g := gb212) (o := .cells #[.bool false, .slice none 0 0] 27 (0, 0)) (by (with_reducible repeat (first | refine blk_drewN ?_ _ | refine blk_drew ?_ | refine blk_alloc ?_ _)); exact BK212.out) k_ hn_))⟩)) (below_size (by repeat (first | (with_reducible first | exact HB.out | apply below_alloc | apply pw_below_drewN | apply below_drew1 | refine below_set ?_ GE211.out | refine below_set ?_ GE212.out) | exact HB.out)))); have n5_ := Aside0.mk (blk_below (g := gb211) (o := .cells #[.bool false, .slice none 0 0] 27 (0, 0)) (by (with_reducible repeat (first | refine blk_drewN ?_ _ | refine blk_drew ?_ | refine blk_alloc ?_ _)); exact BK211.out) hb); have n6_ := Aside0.mk (blk_below (g := gb212) (o := .cells #[.bool false, .slice none 0 0] 27 (0, 0)) (by (with_reducible repeat (first | refine blk_drewN ?_ _ | refine blk_drew ?_ | refine blk_alloc ?_ _)); exact BK212.out) hb); have n7_ := Aside0.mk (below_step (by repeat (first | (with_reducible first | exact HB.out | apply below_alloc | apply pw_below_drewN | apply below_drew1 | refine below_set ?_ GE211.out | refine below_set ?_ GE212.out) | exact HB.out)) hb); clear HO216; clear HO220; clear HO224; clear HO228; clear BK211; clear BK212; clear HB; have HO216 := n0_; have HO220 := n1_; have HO224 := n2_; have HO228 := n3_; have HO232 := n4_; have BK211 := n5_; have BK212 := n6_; have HB := n7_; clear n0_ n1_ n2_ n3_ n4_ n5_ n6_ n7_; (try clear hb); (try clear hb2); (try clear hk); (try clear hi); (try clear ho0); have hnb19 := NB211_212.out; have hnc19 := NB212_211.out; have hcz20_0 : w18.cell? ⟨gb211, 0, none⟩ = some (.bool false) := (blk_cell BK211.out 0).trans rfl; have hcz20_1 : w18.cell? ⟨gb211, 1, none⟩ = some (.slice none 0 0) := (blk_cell BK211.out 1).trans rfl; have hfz20_0 := blk_frozen BK211.out 0; have hfz20_1 := blk_frozen BK211.out 1; obtain ⟨Ao21, co21, eo21⟩ := Kd.V_slice HO220.out; subst eo21; have hcz22_0 : w18.cell? ⟨gb212, 0, none⟩ = some (.bool false) := (blk_cell BK212.out 0).trans rfl; have hcz22_1 : w18.cell? ⟨gb212, 1, none⟩ = some (.slice none 0 0) := (blk_cell BK212.out 1).trans rfl; have hfz22_0 := blk_frozen BK212.out 0; have hfz22_1 := blk_frozen BK212.out 1; obtain ⟨Ao23, co23, eo23⟩ := Kd.V_slice HO232.out; subst eo23))
    refine bodyPost_ret (results_cc rfl _ _ gb211 gb212 27 27 #[.bool t217, .slice Ao21 t218.length co21] #[.bool t229, .slice Ao23 t230.length co23] (0, 0) (0, 0) _ _ rfl (by (with_reducible repeat (first | refine blk_drewN ?_ _ | refine blk_drew ?_ | refine blk_alloc ?_ _)); refine blk_far ?_ NB211_212.out _; (with_reducible repeat (first | refine blk_drewN ?_ _ | refine blk_drew ?_ | refine blk_alloc ?_ _)); refine blk_far ?_ NB211_212.out _; (with_reducible repeat (first | refine blk_drewN ?_ _ | refine blk_drew ?_ | refine blk_alloc ?_ _)); refine blk_put (cs := #[.bool t217, .slice none 0 0]) ?_ 1 _ rfl; (with_reducible repeat (first | refine blk_drewN ?_ _ | refine blk_drew ?_ | refine blk_alloc ?_ _)); refine blk_put (cs := #[.bool false, .slice none 0 0]) ?_ 0 _ rfl; (with_reducible repeat (first | refine blk_drewN ?_ _ | refine blk_drew ?_ | refine blk_alloc ?_ _)); exact BK211.out) Try.underlying27 rfl (by kernel_rfl) rfl (by (with_reducible repeat (first | refine blk_drewN ?_ _ | refine blk_drew ?_ | refine blk_alloc ?_ _)); refine blk_put (cs := #[.bool t229, .slice none 0 0]) ?_ 1 _ rfl; (with_reducible repeat (first | refine blk_drewN ?_ _ | refine blk_drew ?_ | refine blk_alloc ?_ _)); refine blk_put (cs := #[.bool false, .slice none 0 0]) ?_ 0 _ rfl; (with_reducible repeat (first | refine blk_drewN ?_ _ | refine blk_drew ?_ | refine blk_alloc ?_ _)); refine blk_far ?_ NB212_211.out _; (with_reducible repeat (first | refine blk_drewN ?_ _ | refine blk_drew ?_ | refine blk_alloc ?_ _)); refine blk_far ?_ NB212_211.out _; (with_reducible repeat (first | refine blk_drewN ?_ _ | refine blk_drew ?_ | refine blk_alloc ?_ _)); exact BK212.out) Try.underlying27 rfl (by kernel_rfl)) rfl ?_
    exact ⟨_, _, by first | rfl | (simp [errW_none, errW_some] <;> rfl) | (simp [*, errW_none, errW_some] <;> rfl), by (with_reducible repeat (first | apply Kd.V_alloc | apply Kd.V_drewN | apply Kd.V_drew)); exact Kd.V_mono (Kd.V_far (p := ⟨gb212, 1, none⟩) (Kd.V_far (p := ⟨gb212, 0, none⟩) (Kd.V_far (p := ⟨gb211, 1, none⟩) (Kd.V_far (p := ⟨gb211, 0, none⟩) (Kd.V_mono (Kd.V_mono HO220.out (fun k_ hk => (⟨hk, hk.2.1⟩ : _ ∧ k_ ≠ gb211))) (fun k_ hk => (⟨hk, hk.1.2.2⟩ : _ ∧ k_ ≠ gb212))) (fun _ hk => hk.1.2) (.bool t217)) (fun _ hk => hk.1.2) (.slice Ao21 t218.length co21)) (fun _ hk => hk.2) (.bool t229)) (fun _ hk => hk.2) (.slice Ao23 t230.length co23)) (fun _ hk => hk.1.1.1), by (with_reducible repeat (first | apply Kd.V_alloc | apply Kd.V_drewN | apply Kd.V_drew)); exact Kd.V_mono (Kd.V_far (p := ⟨gb212, 1, none⟩) (Kd.V_far (p := ⟨gb212, 0, none⟩) (Kd.V_far (p := ⟨gb211, 1, none⟩) (Kd.V_far (p := ⟨gb211, 0, none⟩) (Kd.V_mono (Kd.V_mono HO232.out (fun k_ hk => (⟨hk, hk.2.1⟩ : _ ∧ k_ ≠ gb211))) (fun k_ hk => (⟨hk, hk.1.2.2⟩ : _ ∧ k_ ≠ gb212))) (fun _ hk => hk.1.2) (.bool t217)) (fun _ hk => hk.1.2) (.slice Ao21 t218.length co21)) (fun _ hk => hk.2) (.bool t229)) (fun _ hk => hk.2) (.slice Ao23 t230.length co23)) (fun _ hk => hk.1.1.1), by repeat (first | (with_reducible first | exact HB.out | apply below_alloc | apply pw_below_drewN | apply below_drew1 | refine below_set ?_ GE211.out | refine below_set ?_ GE212.out) | exact HB.out)⟩
  · replace c3 := Bool.eq_false_iff.mpr c3
    subst c3
    have H1 : ((spec_Two.f k a0).bind fun bt233 => ((spec_WideInt.f k 1).bind fun bt237 => ((spec_WideSub.f k bt233.1 bt233.2 bt237.1 bt237.2).bind fun bt241 => (some (false, ([] : List Int), bt241.1, bt241.2))))) = some (r1, r2, r3, r4) := by rw [if_neg (show ¬ (false = true) by decide)] at H; exact H
    clear H
    have H := H1
    clear H1
    replace H := Option.bind_eq_some_iff.mp H
    obtain ⟨⟨t233, t234⟩, A240, H⟩ := H
    replace H : ((spec_WideInt.f k 1).bind fun bt237 => ((spec_WideSub.f k t233 t234 bt237.1 bt237.2).bind fun bt241 => (some (false, ([] : List Int), bt241.1, bt241.2)))) = some (r1, r2, r3, r4) := H
    have A24 := Aside0.mk A240
    clear A240
    replace H := Option.bind_eq_some_iff.mp H
    obtain ⟨⟨t237, t238⟩, A250, H⟩ := H
    replace H : ((spec_WideSub.f k t233 t234 t237 t238).bind fun bt241 => (some (false, ([] : List Int), bt241.1, bt241.2))) = some (r1, r2, r3, r4) := H
    have A25 := Aside0.mk A250
    clear A250
    replace H := Option.bind_eq_some_iff.mp H
    obtain ⟨⟨t241, t242⟩, A260, H⟩ := H
    replace H : (some (false, ([] : List Int), t241, t242)) = some (r1, r2, r3, r4) := H
    have A26 := Aside0.mk A260
    clear A260
    simp only [Option.some.injEq, Prod.mk.injEq] at H
    obtain ⟨rfl, rfl, rfl, rfl⟩ := H
    go_enter Try.func25, Try.ntmps25
    go_wp2_with (first | ((with_reducible refine gate_dst (N := 4) rfl ?_); refine box_event ?hg (N := 4) ?hd (cs := #[.bool false, .slice none 0 0]) (t := 27) ?hr ?_; (case hd => rfl); (case hg => rfl); (case hr => first | (go_simp; done) | (go_simp; rfl)); intro gb211 hg w27 hbox hb; have n0_ := Aside0.mk (below_step (by repeat (first | (with_reducible first | exact HB.out | apply below_alloc | apply pw_below_drewN | apply below_drew1) | exact HB.out)) hb); have n1_ := Aside0.mk (hbox); have n2_ := Aside0.mk ((by rw [hg]; exact (below_size (by repeat (first | (with_reducible first | exact HB.out | apply below_alloc | apply pw_below_drewN | apply below_drew1) | exact HB.out))) : w.heap.size ≤ gb211)); have n3_ := Aside0.mk ((by rw [hg]; exact (below_size (by repeat (first | (with_reducible first | exact HB.out | apply below_alloc | apply pw_below_drewN | apply below_drew1) | exact HB.out))) : w.heap.size ≤ gb211)); clear HB; have HB := n0_; have BK211 := n1_; have GW211 := n2_; have GE211 := n3_; clear n0_ n1_ n2_ n3_; clear hb hbox hg) | ((with_reducible refine gate_dst (N := 5) rfl ?_); refine box_event ?hg (N := 5) ?hd (cs := #[.bool false, .slice none 0 0]) (t := 27) ?hr ?_; (case hd => rfl); (case hg => rfl); (case hr => first | (go_simp; done) | (go_simp; rfl)); intro gb212 hg w28 hbox hb; have n0_ := Aside0.mk (blk_below (g := gb211) (o := .cells #[.bool false, .slice none 0 0] 27 (0, 0)) (by (with_reducible repeat (first | refine blk_drewN ?_ _ | refine blk_drew ?_ | refine blk_alloc ?_ _)); exact BK211.out) hb); have n1_ := Aside0.mk (below_step (by repeat (first | (with_reducible first | exact HB.out | apply below_alloc | apply pw_below_drewN | apply below_drew1 | refine below_set ?_ GE211.out) | exact HB.out)) hb); have n2_ := Aside0.mk (hbox); have n3_ := Aside0.mk ((by rw [hg]; exact (below_size (by repeat (first | (with_reducible first | exact HB.out | apply below_alloc | apply pw_below_drewN | apply below_drew1 | refine below_set ?_ GE211.out) | exact HB.out))) : w.heap.size ≤ gb212)); have n4_ := Aside0.mk ((by rw [hg]; exact (below_size (by repeat (first | (with_reducible first | exact HB.out | apply below_alloc | apply pw_below_drewN | apply below_drew1 | refine below_set ?_ GE211.out) | exact HB.out))) : w.heap.size ≤ gb212)); have n5_ := Aside0.mk ((by rw [hg]; exact Nat.ne_of_lt (blk_lt (g := gb211) (o := .cells #[.bool false, .slice none 0 0] 27 (0, 0)) (by (with_reducible repeat (first | refine blk_drewN ?_ _ | refine blk_drew ?_ | refine blk_alloc ?_ _)); exact BK211.out)) : gb211 ≠ gb212)); have n6_ := Aside0.mk ((by rw [hg]; exact Nat.ne_of_gt (blk_lt (g := gb211) (o := .cells #[.bool false, .slice none 0 0] 27 (0, 0)) (by (with_reducible repeat (first | refine blk_drewN ?_ _ | refine blk_drew ?_ | refine blk_alloc ?_ _)); exact BK211.out)) : gb212 ≠ gb211)); clear BK211; clear HB; have BK211 := n0_; have HB := n1_; have BK212 := n2_; have GW212 := n3_; have GE212 := n4_; have NB211_212 := n5_; have NB212_211 := n6_; clear n0_ n1_ n2_ n3_ n4_ n5_ n6_; clear hb hbox hg) | ((with_reducible refine gate_callee (f := 36) rfl ?_); refine goesL_ (some 18) rfl rfl Try.func36 (by kernel_rfl) rfl #[.int .i64 a0] rfl (by (try simp only [List.map_toArray, List.map_cons, List.map_nil]); first | done | rfl | (simp only [List.length_drop, List.length_take]; rfl)) ?_; (with_reducible refine (spec_Two.calls k a0 t233 t234 _ A24.out).mono ?_); rintro e w29 ⟨v235, rfl, ho0, hb⟩; refine ⟨_, rfl, ?_⟩; have n0_ := Aside0.mk (Kd.V_lower (Kd.V_mono (ok' := fun k_ => (w.heap.size ≤ k_) ∧ k_ ≠ gb211 ∧ k_ ≠ gb212) ho0 (fun k_ hk_ => ⟨(Nat.le_trans (below_size (by repeat (first | (with_reducible first | exact HB.out | apply below_alloc | apply pw_below_drewN | apply below_drew1 | refine below_set ?_ GE211.out | refine below_set ?_ GE212.out) | exact HB.out))) hk_), (Kd.freshB (g := gb211) (o := .cells #[.bool false, .slice none 0 0] 27 (0, 0)) (by (with_reducible repeat (first | refine blk_drewN ?_ _ | refine blk_drew ?_ | refine blk_alloc ?_ _)); exact BK211.out) k_ hk_), (Kd.freshB (g := gb212) (o := .cells #[.bool false, .slice none 0 0] 27 (0, 0)) (by (with_reducible repeat (first | refine blk_drewN ?_ _ | refine blk_drew ?_ | refine blk_alloc ?_ _)); exact BK212.out) k_ hk_)⟩)) (below_size (by repeat (first | (with_reducible first | exact HB.out | apply below_alloc | apply pw_below_drewN | apply below_drew1 | refine below_set ?_ GE211.out | refine below_set ?_ GE212.out) | exact HB.out)))); have n1_ := Aside0.mk (blk_below (g := gb211) (o := .cells #[.bool false, .slice none 0 0] 27 (0, 0)) (by (with_reducible repeat (first | refine blk_drewN ?_ _ | refine blk_drew ?_ | refine blk_alloc ?_ _)); exact BK211.out) hb); have n2_ := Aside0.mk (blk_below (g := gb212) (o := .cells #[.bool false, .slice none 0 0] 27 (0, 0)) (by (with_reducible repeat (first | refine blk_drewN ?_ _ | refine blk_drew ?_ | refine blk_alloc ?_ _)); exact BK212.out) hb); have n3_ := Aside0.mk (below_step (by repeat (first | (with_reducible first | exact HB.out | apply below_alloc | apply pw_below_drewN | apply below_drew1 | refine below_set ?_ GE211.out | refine below_set ?_ GE212.out) | exact HB.out)) hb); clear BK211; clear BK212; clear HB; have HO236 := n0_; have BK211 := n1_; have BK212 := n2_; have HB := n3_; clear n0_ n1_ n2_ n3_; (try clear hb); (try clear hb2); (try clear hk); (try clear hi); (try clear ho0)) | ((with_reducible refine gate_callee (f := 17) rfl ?_); refine goesL_ (some 19) rfl rfl Try.func17 (by kernel_rfl) rfl #[.int .i64 1] rfl (by (try simp only [List.map_toArray, List.map_cons, List.map_nil]); first | done | rfl | (simp only [List.length_drop, List.length_take]; rfl)) ?_; (with_reducible refine (spec_WideInt.calls k 1 t237 t238 _ A25.out).mono ?_); rintro e w30 ⟨v239, rfl, ho0, hb⟩; refine ⟨_, rfl, ?_⟩; have n0_ := Aside0.mk (Kd.V_below (by (with_reducible repeat (first | apply Kd.V_alloc | apply Kd.V_drewN | apply Kd.V_drew)); exact HO236.out) hb); have n1_ := Aside0.mk (Kd.V_lower (Kd.V_mono (ok' := fun k_ => (w.heap.size ≤ k_) ∧ k_ ≠ gb211 ∧ k_ ≠ gb212) ho0 (fun k_ hk_ => ⟨(Nat.le_trans (below_size (by repeat (first | (with_reducible first | exact HB.out | apply below_alloc | apply pw_below_drewN | apply below_drew1 | refine below_set ?_ GE211.out | refine below_set ?_ GE212.out) | exact HB.out))) hk_), (Kd.freshB (g := gb211) (o := .cells #[.bool false, .slice none 0 0] 27 (0, 0)) (by (with_reducible repeat (first | refine blk_drewN ?_ _ | refine blk_drew ?_ | refine blk_alloc ?_ _)); exact BK211.out) k_ hk_), (Kd.freshB (g := gb212) (o := .cells #[.bool false, .slice none 0 0] 27 (0, 0)) (by (with_reducible repeat (first | refine blk_drewN ?_ _ | refine blk_drew ?_ | refine blk_alloc ?_ _)); exact BK212.out) k_ hk_)⟩)) (below_size (by repeat (first | (with_reducible first | exact HB.out | apply below_alloc | apply pw_below_drewN | apply below_drew1 | refine below_set ?_ GE211.out | refine below_set ?_ GE212.out) | exact HB.out)))); have n2_ := Aside0.mk (blk_below (g := gb211) (o := .cells #[.bool false, .slice none 0 0] 27 (0, 0)) (by (with_reducible repeat (first | refine blk_drewN ?_ _ | refine blk_drew ?_ | refine blk_alloc ?_ _)); exact BK211.out) hb); have n3_ := Aside0.mk (blk_below (g := gb212) (o := .cells #[.bool false, .slice none 0 0] 27 (0, 0)) (by (with_reducible repeat (first | refine blk_drewN ?_ _ | refine blk_drew ?_ | refine blk_alloc ?_ _)); exact BK212.out) hb); have n4_ := Aside0.mk (below_step (by repeat (first | (with_reducible first | exact HB.out | apply below_alloc | apply pw_below_drewN | apply below_drew1 | refine below_set ?_ GE211.out | refine below_set ?_ GE212.out) | exact HB.out)) hb); clear HO236; clear BK211; clear BK212; clear HB; have HO236 := n0_; have HO240 := n1_; have BK211 := n2_; have BK212 := n3_; have HB := n4_; clear n0_ n1_ n2_ n3_ n4_; (try clear hb); (try clear hb2); (try clear hk); (try clear hi); (try clear ho0); obtain ⟨Ao31, co31, eo31⟩ := Kd.V_slice HO236.out; subst eo31; obtain ⟨Ao32, co32, eo32⟩ := Kd.V_slice HO240.out; subst eo32) | ((with_reducible refine gate_callee (f := 54) rfl ?_); refine goesL_ (some 20) rfl rfl Try.func54 (by kernel_rfl) rfl #[.agg #[.bool t233, .slice Ao31 t234.length co31], .agg #[.bool t237, .slice Ao32 t238.length co32]] rfl (by (try simp only [List.map_toArray, List.map_cons, List.map_nil]); first | done | rfl | (simp only [List.length_drop, List.length_take]; rfl)) ?_; (with_reducible refine (spec_WideSub.calls k t233 _ _ t234 t237 (fun k_ => ((w.heap.size ≤ k_) ∧ (k_ ≠ gb211 ∧ k_ ≠ gb212))) _ _ t238 t241 t242 _ ?side1 ?side2 ?side3 A26.out).mono ?_); (case side1 => repeat (first | exact (Kd.V_reads' HO236.out).2.2 | (with_reducible refine Kd.C_alloc ?_ _) | (with_reducible refine Kd.C_drewN ?_ _) | (with_reducible refine Kd.C_drew ?_))); (case side2 => exact (Kd.V_reads' HO236.out).2.1); (case side3 => exact HO240.out); rintro e w33 ⟨v243, rfl, ho0, hb⟩; refine ⟨_, rfl, ?_⟩; have n0_ := Aside0.mk (Kd.V_below (by (with_reducible repeat (first | apply Kd.V_alloc | apply Kd.V_drewN | apply Kd.V_drew)); exact HO236.out) hb); have n1_ := Aside0.mk (Kd.V_below (by (with_reducible repeat (first | apply Kd.V_alloc | apply Kd.V_drewN | apply Kd.V_drew)); exact HO240.out) hb); have n2_ := Aside0.mk (Kd.V_lower (Kd.V_mono (ok' := fun k_ => (w.heap.size ≤ k_) ∧ k_ ≠ gb211 ∧ k_ ≠ gb212) ho0 (fun k_ hk_ => ⟨Or.elim hk_ (fun hs_ => hs_.1) (fun hn_ => (Nat.le_trans (below_size (by repeat (first | (with_reducible first | exact HB.out | apply below_alloc | apply pw_below_drewN | apply below_drew1 | refine below_set ?_ GE211.out | refine below_set ?_ GE212.out) | exact HB.out))) hn_)), Or.elim hk_ (fun hs_ => hs_.2.1) (fun hn_ => (Kd.freshB (g := gb211) (o := .cells #[.bool false, .slice none 0 0] 27 (0, 0)) (by (with_reducible repeat (first | refine blk_drewN ?_ _ | refine blk_drew ?_ | refine blk_alloc ?_ _)); exact BK211.out) k_ hn_)), Or.elim hk_ (fun hs_ => hs_.2.2) (fun hn_ => (Kd.freshB (g := gb212) (o := .cells #[.bool false, .slice none 0 0] 27 (0, 0)) (by (with_reducible repeat (first | refine blk_drewN ?_ _ | refine blk_drew ?_ | refine blk_alloc ?_ _)); exact BK212.out) k_ hn_))⟩)) (below_size (by repeat (first | (with_reducible first | exact HB.out | apply below_alloc | apply pw_below_drewN | apply below_drew1 | refine below_set ?_ GE211.out | refine below_set ?_ GE212.out) | exact HB.out)))); have n3_ := Aside0.mk (blk_below (g := gb211) (o := .cells #[.bool false, .slice none 0 0] 27 (0, 0)) (by (with_reducible repeat (first | refine blk_drewN ?_ _ | refine blk_drew ?_ | refine blk_alloc ?_ _)); exact BK211.out) hb); have n4_ := Aside0.mk (blk_below (g := gb212) (o := .cells #[.bool false, .slice none 0 0] 27 (0, 0)) (by (with_reducible repeat (first | refine blk_drewN ?_ _ | refine blk_drew ?_ | refine blk_alloc ?_ _)); exact BK212.out) hb); have n5_ := Aside0.mk (below_step (by repeat (first | (with_reducible first | exact HB.out | apply below_alloc | apply pw_below_drewN | apply below_drew1 | refine below_set ?_ GE211.out | refine below_set ?_ GE212.out) | exact HB.out)) hb); clear HO236; clear HO240; clear BK211; clear BK212; clear HB; have HO236 := n0_; have HO240 := n1_; have HO244 := n2_; have BK211 := n3_; have BK212 := n4_; have HB := n5_; clear n0_ n1_ n2_ n3_ n4_ n5_; (try clear hb); (try clear hb2); (try clear hk); (try clear hi); (try clear ho0); have hnb34 := NB211_212.out; have hnc34 := NB212_211.out; have hcz35_0 : w33.cell? ⟨gb211, 0, none⟩ = some (.bool false) := (blk_cell BK211.out 0).trans rfl; have hcz35_1 : w33.cell? ⟨gb211, 1, none⟩ = some (.slice none 0 0) := (blk_cell BK211.out 1).trans rfl; have hfz35_0 := blk_frozen BK211.out 0; have hfz35_1 := blk_frozen BK211.out 1; have hcz36_0 : w33.cell? ⟨gb212, 0, none⟩ = some (.bool false) := (blk_cell BK212.out 0).trans rfl; have hcz36_1 : w33.cell? ⟨gb212, 1, none⟩ = some (.slice none 0 0) := (blk_cell BK212.out 1).trans rfl; have hfz36_0 := blk_frozen BK212.out 0; have hfz36_1 := blk_frozen BK212.out 1; obtain ⟨Ao37, co37, eo37⟩ := Kd.V_slice HO244.out; subst eo37))
    refine bodyPost_ret (results_cc rfl _ _ gb211 gb212 27 27 #[.bool false, .slice none 0 0] #[.bool t241, .slice Ao37 t242.length co37] (0, 0) (0, 0) _ _ rfl (by (with_reducible repeat (first | refine blk_drewN ?_ _ | refine blk_drew ?_ | refine blk_alloc ?_ _)); refine blk_far ?_ NB211_212.out _; (with_reducible repeat (first | refine blk_drewN ?_ _ | refine blk_drew ?_ | refine blk_alloc ?_ _)); refine blk_far ?_ NB211_212.out _; (with_reducible repeat (first | refine blk_drewN ?_ _ | refine blk_drew ?_ | refine blk_alloc ?_ _)); refine blk_put (cs := #[.bool false, .slice none 0 0]) ?_ 1 _ rfl; (with_reducible repeat (first | refine blk_drewN ?_ _ | refine blk_drew ?_ | refine blk_alloc ?_ _)); refine blk_put (cs := #[.bool false, .slice none 0 0]) ?_ 0 _ rfl; (with_reducible repeat (first | refine blk_drewN ?_ _ | refine blk_drew ?_ | refine blk_alloc ?_ _)); exact BK211.out) Try.underlying27 rfl (by kernel_rfl) rfl (by (with_reducible repeat (first | refine blk_drewN ?_ _ | refine blk_drew ?_ | refine blk_alloc ?_ _)); refine blk_put (cs := #[.bool t241, .slice none 0 0]) ?_ 1 _ rfl; (with_reducible repeat (first | refine blk_drewN ?_ _ | refine blk_drew ?_ | refine blk_alloc ?_ _)); refine blk_put (cs := #[.bool false, .slice none 0 0]) ?_ 0 _ rfl; (with_reducible repeat (first | refine blk_drewN ?_ _ | refine blk_drew ?_ | refine blk_alloc ?_ _)); refine blk_far ?_ NB212_211.out _; (with_reducible repeat (first | refine blk_drewN ?_ _ | refine blk_drew ?_ | refine blk_alloc ?_ _)); refine blk_far ?_ NB212_211.out _; (with_reducible repeat (first | refine blk_drewN ?_ _ | refine blk_drew ?_ | refine blk_alloc ?_ _)); exact BK212.out) Try.underlying27 rfl (by kernel_rfl)) rfl ?_
    exact ⟨_, _, by first | rfl | (simp [errW_none, errW_some] <;> rfl) | (simp [*, errW_none, errW_some] <;> rfl), Kd.V_nil _ _ _ _ _, by (with_reducible repeat (first | apply Kd.V_alloc | apply Kd.V_drewN | apply Kd.V_drew)); exact Kd.V_mono (Kd.V_far (p := ⟨gb212, 1, none⟩) (Kd.V_far (p := ⟨gb212, 0, none⟩) (Kd.V_far (p := ⟨gb211, 1, none⟩) (Kd.V_far (p := ⟨gb211, 0, none⟩) (Kd.V_mono (Kd.V_mono HO244.out (fun k_ hk => (⟨hk, hk.2.1⟩ : _ ∧ k_ ≠ gb211))) (fun k_ hk => (⟨hk, hk.1.2.2⟩ : _ ∧ k_ ≠ gb212))) (fun _ hk => hk.1.2) (.bool false)) (fun _ hk => hk.1.2) (.slice none 0 0)) (fun _ hk => hk.2) (.bool t241)) (fun _ hk => hk.2) (.slice Ao37 t242.length co37)) (fun _ hk => hk.1.1.1), by repeat (first | (with_reducible first | exact HB.out | apply below_alloc | apply pw_below_drewN | apply below_drew1 | refine below_set ?_ GE211.out | refine below_set ?_ GE212.out) | exact HB.out)⟩

/-! ### spec_WideCmp: function 37 -/
mutual
def spec_WideCmp.j0 : Nat → Bool → Bool → List Int → Bool → List Int → Option (Int)
  | 0, _, _, _, _, _ => none
  | k + 1, x5, x246000, x246001, x247000, x247001 => if x5 = true then (some (-1)) else (if x246000 = true then (spec_WideCmp.j1 k false x246000 x246001 x247000 x247001) else (spec_WideCmp.j1 k x247000 x246000 x246001 x247000 x247001))
def spec_WideCmp.j1 : Nat → Bool → Bool → List Int → Bool → List Int → Option (Int)
  | 0, _, _, _, _, _ => none
  | k + 1, x13, x246000, x246001, x247000, x247001 => if x13 = true then (some 1) else (if x246000 = true then ((spec_magCmp.f k x246001 x247001).bind fun t247 => (some (wrap64 (-t247)))) else ((spec_magCmp.f k x246001 x247001).bind fun t248 => (some t248)))
end
def spec_WideCmp.f (k : Nat) (a0_0 : Bool) (l0_1 : List Int) (a1_0 : Bool) (l1_1 : List Int) : Option (Int) := if a0_0 = true then (spec_WideCmp.j0 k (!a1_0) a0_0 l0_1 a1_0 l1_1) else (spec_WideCmp.j0 k false a0_0 l0_1 a1_0 l1_1)
theorem spec_WideCmp.mono_l : ∀ k, (∀ y0 y1 y2 y3 y4, LeO (spec_WideCmp.j0 k y0 y1 y2 y3 y4) (spec_WideCmp.j0 (k + 1) y0 y1 y2 y3 y4)) ∧ (∀ y0 y1 y2 y3 y4, LeO (spec_WideCmp.j1 k y0 y1 y2 y3 y4) (spec_WideCmp.j1 (k + 1) y0 y1 y2 y3 y4))
  | 0 => ⟨fun _ _ _ _ _ r h => by simp [spec_WideCmp.j0] at h, fun _ _ _ _ _ r h => by simp [spec_WideCmp.j1] at h⟩
  | k + 1 => by
    obtain ⟨ih0, ih1⟩ := spec_WideCmp.mono_l k
    refine ⟨?_, ?_⟩
    · intro y0 y1 y2 y3 y4
      unfold spec_WideCmp.j0
      repeat' first
      | (with_reducible exact ih0 _ _ _ _ _)
      | (with_reducible exact ih1 _ _ _ _ _)
      | (with_reducible exact spec_magCmp.mono _ _ _)
      | (with_reducible exact LeO.refl _)
      | (with_reducible exact LeO.none _)
      | (with_reducible refine LeO.ite ?_ ?_)
      | (with_reducible refine LeO.bind ?_ (fun _ => ?_))
      | exact ih0 _ _ _ _ _
      | exact ih1 _ _ _ _ _
      | exact spec_magCmp.mono _ _ _
      | exact LeO.none _
      | refine LeO.ite ?_ ?_
      | refine LeO.bind ?_ (fun _ => ?_)
    · intro y0 y1 y2 y3 y4
      unfold spec_WideCmp.j1
      repeat' first
      | (with_reducible exact ih0 _ _ _ _ _)
      | (with_reducible exact ih1 _ _ _ _ _)
      | (with_reducible exact spec_magCmp.mono _ _ _)
      | (with_reducible exact LeO.refl _)
      | (with_reducible exact LeO.none _)
      | (with_reducible refine LeO.ite ?_ ?_)
      | (with_reducible refine LeO.bind ?_ (fun _ => ?_))
      | exact ih0 _ _ _ _ _
      | exact ih1 _ _ _ _ _
      | exact spec_magCmp.mono _ _ _
      | exact LeO.none _
      | refine LeO.ite ?_ ?_
      | refine LeO.bind ?_ (fun _ => ?_)
theorem spec_WideCmp.mono : ∀ a0 a1 a2 a3 k, LeO (spec_WideCmp.f k a0 a1 a2 a3) (spec_WideCmp.f (k + 1) a0 a1 a2 a3) := by
  intro a0 a1 a2 a3 k
  obtain ⟨ih0, ih1⟩ := spec_WideCmp.mono_l k
  unfold spec_WideCmp.f
  repeat' first
      | (with_reducible exact ih0 _ _ _ _ _)
      | (with_reducible exact ih1 _ _ _ _ _)
      | (with_reducible exact spec_magCmp.mono _ _ _)
      | (with_reducible exact LeO.refl _)
      | (with_reducible exact LeO.none _)
      | (with_reducible refine LeO.ite ?_ ?_)
      | (with_reducible refine LeO.bind ?_ (fun _ => ?_))
      | exact ih0 _ _ _ _ _
      | exact ih1 _ _ _ _ _
      | exact spec_magCmp.mono _ _ _
      | exact LeO.none _
      | refine LeO.ite ?_ ?_
      | refine LeO.bind ?_ (fun _ => ?_)
set_option maxHeartbeats 8000000 in
set_option maxRecDepth 100000 in
theorem spec_WideCmp.calls (k : Nat) (a0_0 : Bool) (A0_1 : Option Addr) (c0_1 : Nat) (l0_1 : List Int) (a1_0 : Bool) (A1_1 : Option Addr) (c1_1 : Nat) (l1_1 : List Int) (r : Int) (w : World) (hr0_1 : Kd.C (Kd.int .u32) w A0_1 l0_1.length l0_1) (hc0_1 : l0_1.length ≤ c0_1) (hr1_1 : Kd.C (Kd.int .u32) w A1_1 l1_1.length l1_1) (hc1_1 : l1_1.length ≤ c1_1) (h : spec_WideCmp.f k a0_0 l0_1 a1_0 l1_1 = some r) :
    Calls Try.prog 37 #[.agg #[.bool a0_0, .slice A0_1 l0_1.length c0_1], .agg #[.bool a1_0, .slice A1_1 l1_1.length c1_1]] w fun e w' => e = .returned (.int .i64 r) ∧ Below w.heap.size w w' := by
  have hu27 := Try.underlying27
  have HR0_1 := Aside0.mk hr0_1
  have HC0_1 := Aside0.mk hc0_1
  clear hr0_1 hc0_1
  have HR1_1 := Aside0.mk hr1_1
  have HC1_1 := Aside0.mk hc1_1
  clear hr1_1 hc1_1
  have HB := Aside0.mk (Below.refl w.heap.size w)
  have H : (if a0_0 = true then (spec_WideCmp.j0 k (!a1_0) a0_0 l0_1 a1_0 l1_1) else (spec_WideCmp.j0 k false a0_0 l0_1 a1_0 l1_1)) = some r := h
  clear h
  have HC3 := Aside0.mk H
  clear H
  go_enter Try.func37, Try.ntmps37
  go_upto_region 1 with (first | ((with_reducible refine gate_dst (N := 2) rfl ?_); refine box_event ?hg (N := 2) ?hd (cs := #[.bool a0_0, .slice A0_1 l0_1.length c0_1]) (t := 27) ?hr ?_; (case hd => rfl); (case hg => rfl); (case hr => first | (go_simp; done) | (go_simp; rfl)); intro gb245 hg w4 hbox hb; have n0_ := Aside0.mk (below_step (by repeat (first | (with_reducible first | exact HB.out | apply below_alloc | apply pw_below_drewN | apply below_drew1) | exact HB.out)) hb); have n1_ := Aside0.mk (hbox); have n2_ := Aside0.mk ((by rw [hg]; exact (below_size (by repeat (first | (with_reducible first | exact HB.out | apply below_alloc | apply pw_below_drewN | apply below_drew1) | exact HB.out))) : w.heap.size ≤ gb245)); have n3_ := Aside0.mk ((by rw [hg]; exact (below_size (by repeat (first | (with_reducible first | exact HB.out | apply below_alloc | apply pw_below_drewN | apply below_drew1) | exact HB.out))) : w.heap.size ≤ gb245)); clear HB; have HB := n0_; have BK245 := n1_; have GW245 := n2_; have GE245 := n3_; clear n0_ n1_ n2_ n3_; clear hb hbox hg) | ((with_reducible refine gate_dst (N := 3) rfl ?_); refine box_event ?hg (N := 3) ?hd (cs := #[.bool a1_0, .slice A1_1 l1_1.length c1_1]) (t := 27) ?hr ?_; (case hd => rfl); (case hg => rfl); (case hr => first | (go_simp; done) | (go_simp; rfl)); intro gb246 hg w5 hbox hb; have n0_ := Aside0.mk (blk_below (g := gb245) (o := .cells #[.bool a0_0, .slice A0_1 l0_1.length c0_1] 27 (0, 0)) (by (with_reducible repeat (first | refine blk_drewN ?_ _ | refine blk_drew ?_ | refine blk_alloc ?_ _)); exact BK245.out) hb); have n1_ := Aside0.mk (below_step (by repeat (first | (with_reducible first | exact HB.out | apply below_alloc | apply pw_below_drewN | apply below_drew1 | refine below_set ?_ GE245.out) | exact HB.out)) hb); have n2_ := Aside0.mk (hbox); have n3_ := Aside0.mk ((by rw [hg]; exact (below_size (by repeat (first | (with_reducible first | exact HB.out | apply below_alloc | apply pw_below_drewN | apply below_drew1 | refine below_set ?_ GE245.out) | exact HB.out))) : w.heap.size ≤ gb246)); have n4_ := Aside0.mk ((by rw [hg]; exact (below_size (by repeat (first | (with_reducible first | exact HB.out | apply below_alloc | apply pw_below_drewN | apply below_drew1 | refine below_set ?_ GE245.out) | exact HB.out))) : w.heap.size ≤ gb246)); have n5_ := Aside0.mk ((by rw [hg]; exact Nat.ne_of_lt (blk_lt (g := gb245) (o := .cells #[.bool a0_0, .slice A0_1 l0_1.length c0_1] 27 (0, 0)) (by (with_reducible repeat (first | refine blk_drewN ?_ _ | refine blk_drew ?_ | refine blk_alloc ?_ _)); exact BK245.out)) : gb245 ≠ gb246)); have n6_ := Aside0.mk ((by rw [hg]; exact Nat.ne_of_gt (blk_lt (g := gb245) (o := .cells #[.bool a0_0, .slice A0_1 l0_1.length c0_1] 27 (0, 0)) (by (with_reducible repeat (first | refine blk_drewN ?_ _ | refine blk_drew ?_ | refine blk_alloc ?_ _)); exact BK245.out)) : gb246 ≠ gb245)); clear BK245; clear HB; have BK245 := n0_; have HB := n1_; have BK246 := n2_; have GW246 := n3_; have GE246 := n4_; have NB245_246 := n5_; have NB246_245 := n6_; clear n0_ n1_ n2_ n3_ n4_ n5_ n6_; clear hb hbox hg))
  (try simp only [Act.put, List.setIfInBounds_toArray, List.set_cons_zero, List.set_cons_succ])
  go_cut [5] (fun v5 wc => ∃ (kq : Nat) (x5_2 : Bool), v5 = .bool x5_2 ∧ Aside0 (spec_WideCmp.j0 kq x5_2 a0_0 l0_1 a1_0 l1_1 = some r) ∧ Aside0 (kq ≤ k) ∧ Aside0 (wc.heap[gb245]? = some (.cells #[.bool a0_0, (.slice A0_1 l0_1.length c0_1)] 27 (0, 0))) ∧ Aside0 (wc.heap[gb246]? = some (.cells #[.bool a1_0, (.slice A1_1 l1_1.length c1_1)] 27 (0, 0))) ∧ Aside0 (Below w.heap.size w wc))
  case first =>
    have H := HC3.out
    clear HC3
    by_cases c6 : a0_0 = true
    · subst c6
      have H1 : (spec_WideCmp.j0 k (!a1_0) true l0_1 a1_0 l1_1) = some r := by rw [if_pos rfl] at H; exact H
      clear H
      have H := H1
      clear H1
      have H' := Aside0.mk H
      clear H
      have hnb7 := NB245_246.out
      have hnc7 := NB246_245.out
      have hcz8_0 : w5.cell? ⟨gb245, 0, none⟩ = some (.bool true) := (blk_cell BK245.out 0).trans rfl
      have hcz8_1 : w5.cell? ⟨gb245, 1, none⟩ = some (.slice A0_1 l0_1.length c0_1) := (blk_cell BK245.out 1).trans rfl
      have hfz8_0 := blk_frozen BK245.out 0
      have hfz8_1 := blk_frozen BK245.out 1
      have hcz9_0 : w5.cell? ⟨gb246, 0, none⟩ = some (.bool a1_0) := (blk_cell BK246.out 0).trans rfl
      have hcz9_1 : w5.cell? ⟨gb246, 1, none⟩ = some (.slice A1_1 l1_1.length c1_1) := (blk_cell BK246.out 1).trans rfl
      have hfz9_0 := blk_frozen BK246.out 0
      have hfz9_1 := blk_frozen BK246.out 1
      go_wp2
      go_meet
      case rel => exact ⟨_, (!a1_0), (by first | rfl | (simp; done) | (simp [*]; done)), H', ⟨by first | omega | exact Nat.le_refl _⟩, ⟨by (with_reducible repeat (first | refine blk_drewN ?_ _ | refine blk_drew ?_ | refine blk_alloc ?_ _)); exact BK245.out⟩, ⟨by (with_reducible repeat (first | refine blk_drewN ?_ _ | refine blk_drew ?_ | refine blk_alloc ?_ _)); exact BK246.out⟩, ⟨by repeat (first | (with_reducible first | exact HB.out | apply below_alloc | apply pw_below_drewN | apply below_drew1 | refine below_set ?_ GE245.out | refine below_set ?_ GE246.out) | exact HB.out)⟩⟩
    · replace c6 := Bool.eq_false_iff.mpr c6
      subst c6
      have H1 : (spec_WideCmp.j0 k false false l0_1 a1_0 l1_1) = some r := by rw [if_neg (show ¬ (false = true) by decide)] at H; exact H
      clear H
      have H := H1
      clear H1
      have H' := Aside0.mk H
      clear H
      have hnb10 := NB245_246.out
      have hnc10 := NB246_245.out
      have hcz11_0 : w5.cell? ⟨gb245, 0, none⟩ = some (.bool false) := (blk_cell BK245.out 0).trans rfl
      have hcz11_1 : w5.cell? ⟨gb245, 1, none⟩ = some (.slice A0_1 l0_1.length c0_1) := (blk_cell BK245.out 1).trans rfl
      have hfz11_0 := blk_frozen BK245.out 0
      have hfz11_1 := blk_frozen BK245.out 1
      go_wp2
      go_meet
      case rel => exact ⟨_, (false), (by first | rfl | (simp; done) | (simp [*]; done)), H', ⟨by first | omega | exact Nat.le_refl _⟩, ⟨by (with_reducible repeat (first | refine blk_drewN ?_ _ | refine blk_drew ?_ | refine blk_alloc ?_ _)); exact BK245.out⟩, ⟨by (with_reducible repeat (first | refine blk_drewN ?_ _ | refine blk_drew ?_ | refine blk_alloc ?_ _)); exact BK246.out⟩, ⟨by repeat (first | (with_reducible first | exact HB.out | apply below_alloc | apply pw_below_drewN | apply below_drew1 | refine below_set ?_ GE245.out | refine below_set ?_ GE246.out) | exact HB.out)⟩⟩
  case rest =>
    clear HC3
    try clear c1
    try clear p2
    try clear c3
    try clear c6
    try clear c7
    try clear c10
    try clear hcz11_0
    try clear hcz11_1
    try clear hcz8_0
    try clear hcz8_1
    try clear hcz9_0
    try clear hcz9_1
    try clear hfz11_0
    try clear hfz11_1
    try clear hfz8_0
    try clear hfz8_1
    try clear hfz9_0
    try clear hfz9_1
    obtain ⟨kq, x5_2, rfl, HA, HJ2, BK245, BK246, HB⟩ := hcut
    cases kq with
    | zero => exact absurd HA.out (by simp [spec_WideCmp.j0])
    | succ kj2 =>
      have H := HA.out
      clear HA
      simp only [spec_WideCmp.j0] at H
      by_cases c12 : x5_2 = true
      · subst c12
        have H1 : (some (-1)) = some r := by rw [if_pos rfl] at H; exact H
        clear H
        have H := H1
        clear H1
        obtain rfl := Option.some.inj H
        go_wp2
        go_ret
        exact ⟨by first | rfl | (simp [errW_none, errW_some] <;> rfl) | (simp [*, errW_none, errW_some] <;> rfl), by repeat (first | (with_reducible first | exact HB.out | apply below_alloc | apply pw_below_drewN | apply below_drew1 | refine below_set ?_ GE245.out | refine below_set ?_ GE246.out) | exact HB.out)⟩
      · replace c12 := Bool.eq_false_iff.mpr c12
        subst c12
        have H1 : (if a0_0 = true then (spec_WideCmp.j1 kj2 false a0_0 l0_1 a1_0 l1_1) else (spec_WideCmp.j1 kj2 a1_0 a0_0 l0_1 a1_0 l1_1)) = some r := by rw [if_neg (show ¬ (false = true) by decide)] at H; exact H
        clear H
        have H := H1
        clear H1
        have HC13 := Aside0.mk H
        clear H
        go_upto_region 3 with (fail)
        go_cut [13] (fun v13 wc => ∃ (kq : Nat) (x13_12 : Bool), v13 = .bool x13_12 ∧ Aside0 (spec_WideCmp.j1 kq x13_12 a0_0 l0_1 a1_0 l1_1 = some r) ∧ Aside0 (kq ≤ kj2) ∧ Aside0 (wc.heap[gb245]? = some (.cells #[.bool a0_0, (.slice A0_1 l0_1.length c0_1)] 27 (0, 0))) ∧ Aside0 (wc.heap[gb246]? = some (.cells #[.bool a1_0, (.slice A1_1 l1_1.length c1_1)] 27 (0, 0))) ∧ Aside0 (Below w.heap.size w wc))
        case first =>
          have H := HC13.out
          clear HC13
          by_cases c14 : a0_0 = true
          · subst c14
            have H1 : (spec_WideCmp.j1 kj2 false true l0_1 a1_0 l1_1) = some r := by rw [if_pos rfl] at H; exact H
            clear H
            have H := H1
            clear H1
            have H' := Aside0.mk H
            clear H
            have hnb15 := NB245_246.out
            have hnc15 := NB246_245.out
            have hcz16_0 : wc.cell? ⟨gb245, 0, none⟩ = some (.bool true) := (blk_cell BK245.out 0).trans rfl
            have hcz16_1 : wc.cell? ⟨gb245, 1, none⟩ = some (.slice A0_1 l0_1.length c0_1) := (blk_cell BK245.out 1).trans rfl
            have hfz16_0 := blk_frozen BK245.out 0
            have hfz16_1 := blk_frozen BK245.out 1
            go_wp2
            go_meet
            case rel => exact ⟨_, (false), (by first | rfl | (simp; done) | (simp [*]; done)), H', ⟨by have := HJ2.out; first | omega | exact Nat.le_refl _⟩, ⟨by (with_reducible repeat (first | refine blk_drewN ?_ _ | refine blk_drew ?_ | refine blk_alloc ?_ _)); exact BK245.out⟩, ⟨by (with_reducible repeat (first | refine blk_drewN ?_ _ | refine blk_drew ?_ | refine blk_alloc ?_ _)); exact BK246.out⟩, ⟨by repeat (first | (with_reducible first | exact HB.out | apply below_alloc | apply pw_below_drewN | apply below_drew1 | refine below_set ?_ GE245.out | refine below_set ?_ GE246.out) | exact HB.out)⟩⟩
          · replace c14 := Bool.eq_false_iff.mpr c14
            subst c14
            have H1 : (spec_WideCmp.j1 kj2 a1_0 false l0_1 a1_0 l1_1) = some r := by rw [if_neg (show ¬ (false = true) by decide)] at H; exact H
            clear H
            have H := H1
            clear H1
            have H' := Aside0.mk H
            clear H
            have hnb17 := NB245_246.out
            have hnc17 := NB246_245.out
            have hcz18_0 : wc.cell? ⟨gb245, 0, none⟩ = some (.bool false) := (blk_cell BK245.out 0).trans rfl
            have hcz18_1 : wc.cell? ⟨gb245, 1, none⟩ = some (.slice A0_1 l0_1.length c0_1) := (blk_cell BK245.out 1).trans rfl
            have hfz18_0 := blk_frozen BK245.out 0
            have hfz18_1 := blk_frozen BK245.out 1
            have hcz19_0 : wc.cell? ⟨gb246, 0, none⟩ = some (.bool a1_0) := (blk_cell BK246.out 0).trans rfl
            have hcz19_1 : wc.cell? ⟨gb246, 1, none⟩ = some (.slice A1_1 l1_1.length c1_1) := (blk_cell BK246.out 1).trans rfl
            have hfz19_0 := blk_frozen BK246.out 0
            have hfz19_1 := blk_frozen BK246.out 1
            go_wp2
            go_meet
            case rel => exact ⟨_, (a1_0), (by first | rfl | (simp; done) | (simp [*]; done)), H', ⟨by have := HJ2.out; first | omega | exact Nat.le_refl _⟩, ⟨by (with_reducible repeat (first | refine blk_drewN ?_ _ | refine blk_drew ?_ | refine blk_alloc ?_ _)); exact BK245.out⟩, ⟨by (with_reducible repeat (first | refine blk_drewN ?_ _ | refine blk_drew ?_ | refine blk_alloc ?_ _)); exact BK246.out⟩, ⟨by repeat (first | (with_reducible first | exact HB.out | apply below_alloc | apply pw_below_drewN | apply below_drew1 | refine below_set ?_ GE245.out | refine below_set ?_ GE246.out) | exact HB.out)⟩⟩
        case rest =>
          clear HC13
          try clear c1
          try clear p2
          try clear c3
          try clear c6
          try clear c7
          try clear c10
          try clear c12
          try clear c14
          try clear c15
          try clear c17
          try clear hcz11_0
          try clear hcz11_1
          try clear hcz16_0
          try clear hcz16_1
          try clear hcz18_0
          try clear hcz18_1
          try clear hcz19_0
          try clear hcz19_1
          try clear hcz8_0
          try clear hcz8_1
          try clear hcz9_0
          try clear hcz9_1
          try clear hfz11_0
          try clear hfz11_1
          try clear hfz16_0
          try clear hfz16_1
          try clear hfz18_0
          try clear hfz18_1
          try clear hfz19_0
          try clear hfz19_1
          try clear hfz8_0
          try clear hfz8_1
          try clear hfz9_0
          try clear hfz9_1
          try clear p2
          obtain ⟨kq, x13_12, rfl, HA, HJ12, BK245, BK246, HB⟩ := hcut
          cases kq with
          | zero => exact absurd HA.out (by simp [spec_WideCmp.j1])
          | succ kj12 =>
            have H := HA.out
            clear HA
            simp only [spec_WideCmp.j1] at H
            by_cases c20 : x13_12 = true
            · subst c20
              have H1 : (some 1) = some r := by rw [if_pos rfl] at H; exact H
              clear H
              have H := H1
              clear H1
              obtain rfl := Option.some.inj H
              go_wp2
              go_ret
              exact ⟨by first | rfl | (simp [errW_none, errW_some] <;> rfl) | (simp [*, errW_none, errW_some] <;> rfl), by repeat (first | (with_reducible first | exact HB.out | apply below_alloc | apply pw_below_drewN | apply below_drew1 | refine below_set ?_ GE245.out | refine below_set ?_ GE246.out) | exact HB.out)⟩
            · replace c20 := Bool.eq_false_iff.mpr c20
              subst c20
              have H1 : (if a0_0 = true then ((spec_magCmp.f kj12 l0_1 l1_1).bind fun t247 => (some (wrap64 (-t247)))) else ((spec_magCmp.f kj12 l0_1 l1_1).bind fun t248 => (some t248))) = some r := by rw [if_neg (show ¬ (false = true) by decide)] at H; exact H
              clear H
              have H := H1
              clear H1
              by_cases c21 : a0_0 = true
              · subst c21
                have H1 : ((spec_magCmp.f kj12 l0_1 l1_1).bind fun t247 => (some (wrap64 (-t247)))) = some r := by rw [if_pos rfl] at H; exact H
                clear H
                have H := H1
                clear H1
                replace H := Option.bind_eq_some_iff.mp H
                obtain ⟨t247, A220, H⟩ := H
                replace H : (some (wrap64 (-t247))) = some r := H
                have A22 := Aside0.mk A220
                clear A220
                obtain rfl := Option.some.inj H
                have hnb23 := NB245_246.out
                have hnc23 := NB246_245.out
                have hcz24_0 : wc.cell? ⟨gb245, 0, none⟩ = some (.bool true) := (blk_cell BK245.out 0).trans rfl
                have hcz24_1 : wc.cell? ⟨gb245, 1, none⟩ = some (.slice A0_1 l0_1.length c0_1) := (blk_cell BK245.out 1).trans rfl
                have hfz24_0 := blk_frozen BK245.out 0
                have hfz24_1 := blk_frozen BK245.out 1
                have hcz25_0 : wc.cell? ⟨gb246, 0, none⟩ = some (.bool a1_0) := (blk_cell BK246.out 0).trans rfl
                have hcz25_1 : wc.cell? ⟨gb246, 1, none⟩ = some (.slice A1_1 l1_1.length c1_1) := (blk_cell BK246.out 1).trans rfl
                have hfz25_0 := blk_frozen BK246.out 0
                have hfz25_1 := blk_frozen BK246.out 1
                go_wp2_with (first | ((with_reducible refine gate_callee (f := 42) rfl ?_); refine goesL_ (some 28) rfl rfl Try.func42 (by kernel_rfl) rfl #[.slice A0_1 l0_1.length c0_1, .slice A1_1 l1_1.length c1_1] rfl (by (try simp only [List.map_toArray, List.map_cons, List.map_nil]); first | done | rfl | (simp only [List.length_drop, List.length_take]; rfl)) ?_; (with_reducible refine (spec_magCmp.calls kj12 _ _ l0_1 _ _ l1_1 t247 _ ?side1 ?side2 ?side3 ?side4 A22.out).mono ?_); (case side1 => repeat (first | exact (Kd.C_below HR0_1.out HB.out) | (with_reducible refine Kd.C_alloc ?_ _) | (with_reducible refine Kd.C_drewN ?_ _) | (with_reducible refine Kd.C_drew ?_))); (case side2 => exact HC0_1.out); (case side3 => repeat (first | exact (Kd.C_below HR1_1.out HB.out) | (with_reducible refine Kd.C_alloc ?_ _) | (with_reducible refine Kd.C_drewN ?_ _) | (with_reducible refine Kd.C_drew ?_))); (case side4 => exact HC1_1.out); rintro e w' ⟨rfl, ⟨nd, rfl⟩⟩; refine ⟨_, rfl, ?_⟩))
                go_ret
                exact ⟨by first | rfl | (simp [errW_none, errW_some] <;> rfl) | (simp [*, errW_none, errW_some] <;> rfl), by repeat (first | (with_reducible first | exact HB.out | apply below_alloc | apply pw_below_drewN | apply below_drew1 | refine below_set ?_ GE245.out | refine below_set ?_ GE246.out) | exact HB.out)⟩
              · replace c21 := Bool.eq_false_iff.mpr c21
                subst c21
                have H1 : ((spec_magCmp.f kj12 l0_1 l1_1).bind fun t248 => (some t248)) = some r := by rw [if_neg (show ¬ (false = true) by decide)] at H; exact H
                clear H
                have H := H1
                clear H1
                replace H := Option.bind_eq_some_iff.mp H
                obtain ⟨t248, A260, H⟩ := H
                replace H : (some t248) = some r := H
                have A26 := Aside0.mk A260
                clear A260
                obtain rfl := Option.some.inj H
                have hnb27 := NB245_246.out
                have hnc27 := NB246_245.out
                have hcz28_0 : wc.cell? ⟨gb245, 0, none⟩ = some (.bool false) := (blk_cell BK245.out 0).trans rfl
                have hcz28_1 : wc.cell? ⟨gb245, 1, none⟩ = some (.slice A0_1 l0_1.length c0_1) := (blk_cell BK245.out 1).trans rfl
                have hfz28_0 := blk_frozen BK245.out 0
                have hfz28_1 := blk_frozen BK245.out 1
                have hcz29_0 : wc.cell? ⟨gb246, 0, none⟩ = some (.bool a1_0) := (blk_cell BK246.out 0).trans rfl
                have hcz29_1 : wc.cell? ⟨gb246, 1, none⟩ = some (.slice A1_1 l1_1.length c1_1) := (blk_cell BK246.out 1).trans rfl
                have hfz29_0 := blk_frozen BK246.out 0
                have hfz29_1 := blk_frozen BK246.out 1
                go_wp2_with (first | ((with_reducible refine gate_callee (f := 42) rfl ?_); refine goesL_ (some 34) rfl rfl Try.func42 (by kernel_rfl) rfl #[.slice A0_1 l0_1.length c0_1, .slice A1_1 l1_1.length c1_1] rfl (by (try simp only [List.map_toArray, List.map_cons, List.map_nil]); first | done | rfl | (simp only [List.length_drop, List.length_take]; rfl)) ?_; (with_reducible refine (spec_magCmp.calls kj12 _ _ l0_1 _ _ l1_1 t248 _ ?side1 ?side2 ?side3 ?side4 A26.out).mono ?_); (case side1 => repeat (first | exact (Kd.C_below HR0_1.out HB.out) | (with_reducible refine Kd.C_alloc ?_ _) | (with_reducible refine Kd.C_drewN ?_ _) | (with_reducible refine Kd.C_drew ?_))); (case side2 => exact HC0_1.out); (case side3 => repeat (first | exact (Kd.C_below HR1_1.out HB.out) | (with_reducible refine Kd.C_alloc ?_ _) | (with_reducible refine Kd.C_drewN ?_ _) | (with_reducible refine Kd.C_drew ?_))); (case side4 => exact HC1_1.out); rintro e w' ⟨rfl, ⟨nd, rfl⟩⟩; refine ⟨_, rfl, ?_⟩))
                go_ret
                exact ⟨by first | rfl | (simp [errW_none, errW_some] <;> rfl) | (simp [*, errW_none, errW_some] <;> rfl), by repeat (first | (with_reducible first | exact HB.out | apply below_alloc | apply pw_below_drewN | apply below_drew1 | refine below_set ?_ GE245.out | refine below_set ?_ GE246.out) | exact HB.out)⟩

end Go.Proofs.Ytnjniacohbeonaa.Q
