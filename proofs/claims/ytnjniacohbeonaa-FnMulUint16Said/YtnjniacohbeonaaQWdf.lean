-- written by programs of ours (wip/tools) out of the kit's printer: the functions of one law, less those that are shared or proved by hand
import Derived.Test.YtnjniacohbeonaaQ0
import Derived.Test.YtnjniacohbeonaaQWda
namespace Go.Proofs.Ytnjniacohbeonaa.Q
open Go.RowKit Go.Proofs.YtnjniacohbeonaaW.PrintWords Go.Proofs.YtnjniacohbeonaaW.PrintLast Go.Proofs.YtnjniacohbeonaaW.PrintMore
attribute [local go_sem] max2_int min2_int max_two min_two max_three min_three max_four min_four
set_option linter.unusedVariables false
set_option linter.unusedSimpArgs false

/-! ### spec_WideUint: function 30 -/
def spec_WideUint.f (k : Nat) (a0 : Int) : Option (Bool × List Int) := (spec_wide.f k false (([(a0) % 4294967296, (a0 / 4294967296) % 4294967296] : List Int))).bind fun bt373 => (some (bt373.1, bt373.2))
theorem spec_WideUint.mono : ∀ a0 k, LeO (spec_WideUint.f k a0) (spec_WideUint.f (k + 1) a0) := by
  intro a0 k
  unfold spec_WideUint.f
  repeat' first
      | (with_reducible exact spec_wide.mono _ _ _)
      | (with_reducible exact LeO.refl _)
      | (with_reducible exact LeO.none _)
      | (with_reducible refine LeO.ite ?_ ?_)
      | (with_reducible refine LeO.bind ?_ (fun _ => ?_))
      | exact spec_wide.mono _ _ _
      | exact LeO.none _
      | refine LeO.ite ?_ ?_
      | refine LeO.bind ?_ (fun _ => ?_)
set_option maxHeartbeats 8000000 in
set_option maxRecDepth 100000 in
theorem spec_WideUint.calls (k : Nat) (a0 : Int) (r1 : Bool) (r2 : List Int) (w : World) (h : spec_WideUint.f k a0 = some (r1, r2)) :
    Calls Try.prog 30 #[.int .u64 a0] w fun e w' => ∃ v1_ : Value, e = .returned (.agg #[.bool r1, v1_]) ∧ Kd.V (Kd.int .u32) 44 w' w.heap.size (fun k_ => (w.heap.size ≤ k_)) v1_ r2 ∧ Below w.heap.size w w' := by
  have hu27 := Try.underlying27
  have HB := Aside0.mk (Below.refl w.heap.size w)
  have H : ((spec_wide.f k false (([(a0) % 4294967296, (a0 / 4294967296) % 4294967296] : List Int))).bind fun bt373 => (some (bt373.1, bt373.2))) = some (r1, r2) := h
  clear h
  obtain ⟨y370, hy370⟩ : ∃ y_ : List Int, y_ = (([(a0) % 4294967296, (a0 / 4294967296) % 4294967296] : List Int)) := ⟨_, rfl⟩
  replace H : ((spec_wide.f k false y370).bind fun bt373 => (some (bt373.1, bt373.2))) = some (r1, r2) := by first | (rw [hy370]; with_reducible exact H) | (have H2_ := (Option.bind_some _ _).symm.trans H; rw [hy370]; with_reducible exact H2_) | (have H2_ := (Option.bind_some _ _).symm.trans H; with_reducible exact H2_) | with_reducible exact H | (rw [hy370]; exact H) | exact H
  have Ny370 := Aside0.mk hy370
  clear hy370
  replace H := Option.bind_eq_some_iff.mp H
  obtain ⟨⟨t373, t374⟩, A20, H⟩ := H
  replace H : (some (t373, t374)) = some (r1, r2) := H
  have A2 := Aside0.mk A20
  clear A20
  simp only [Option.some.injEq, Prod.mk.injEq] at H
  obtain ⟨rfl, rfl⟩ := H
  go_enter Try.func30, Try.ntmps30
  go_wp2_with (first | ((with_reducible refine gate_dst (N := 2) rfl ?_); refine box_event ?hg (N := 2) ?hd (cs := #[.bool false, .slice none 0 0]) (t := 27) ?hr ?_; (case hd => rfl); (case hg => rfl); (case hr => first | (go_simp; done) | (go_simp; rfl)); intro gb369 hg w3 hbox hb; have n0_ := Aside0.mk (below_step (by repeat (first | (with_reducible first | exact HB.out | apply below_alloc | apply pw_below_drewN | apply below_drew1) | exact HB.out)) hb); have n1_ := Aside0.mk (hbox); have n2_ := Aside0.mk ((by rw [hg]; exact (below_size (by repeat (first | (with_reducible first | exact HB.out | apply below_alloc | apply pw_below_drewN | apply below_drew1) | exact HB.out))) : w.heap.size ≤ gb369)); have n3_ := Aside0.mk ((by rw [hg]; exact (below_size (by repeat (first | (with_reducible first | exact HB.out | apply below_alloc | apply pw_below_drewN | apply below_drew1) | exact HB.out))) : w.heap.size ≤ gb369)); clear HB; have HB := n0_; have BK369 := n1_; have GW369 := n2_; have GE369 := n3_; clear n0_ n1_ n2_ n3_; clear hb hbox hg) | ((with_reducible refine gate_dst (N := 8) rfl ?_); refine Kd.R_lit (Kd.int .u32) _ 44 ?hg (N := 8) ?hd (xs := ([(a0) % 4294967296, (a0 / 4294967296) % 4294967296] : List Int)) (inner := [.int .u32 ((a0) % 4294967296), .int .u32 ((a0 / 4294967296) % 4294967296)]) (ok := fun _ => True) (okp := fun _ => True) ?hr ?hp (fun _ hk => hk) trivial (Below.refl _ _) (Nat.le_refl _) (by simp) ?_; (case hd => rfl); (case hg => rfl); (case hr => first | (go_simp; done) | (go_simp; rfl)); (case hp => exact (Reps.one (show Kd.M (Kd.int .u32) _ _ _ ((a0) % 4294967296) [.int .u32 ((a0) % 4294967296)] from rfl) (Reps.one (show Kd.M (Kd.int .u32) _ _ _ ((a0 / 4294967296) % 4294967296) [.int .u32 ((a0 / 4294967296) % 4294967296)] from rfl) (Reps.none _ _)))); intro v371 w4 ho5 hb hg_ hnew_; clear hg_ hnew_; (first | rw [← Ny370.out] at ho5 | (simp only [Int.reduceToNat] at ho5; rw [← Ny370.out] at ho5)); have n0_ := Aside0.mk (Kd.R_lower (Kd.R_newM (M := fun k_ => (w.heap.size ≤ k_)) ho5 (below_size (by repeat (first | (with_reducible first | exact HB.out | apply below_alloc | apply pw_below_drewN | apply below_drew1 | refine below_set ?_ GE369.out) | exact HB.out))) (fun k_ h_ => h_)) (below_size (by repeat (first | (with_reducible first | exact HB.out | apply below_alloc | apply pw_below_drewN | apply below_drew1 | refine below_set ?_ GE369.out) | exact HB.out)))); have n1_ := Aside0.mk (blk_below (g := gb369) (o := .cells #[.bool false, .slice none 0 0] 27 (0, 0)) (by (with_reducible repeat (first | refine blk_drewN ?_ _ | refine blk_drew ?_ | refine blk_alloc ?_ _)); exact BK369.out) hb); have n2_ := Aside0.mk (below_step (by repeat (first | (with_reducible first | exact HB.out | apply below_alloc | apply pw_below_drewN | apply below_drew1 | refine below_set ?_ GE369.out) | exact HB.out)) hb); clear BK369; clear HB; have HO372 := n0_; have BK369 := n1_; have HB := n2_; clear n0_ n1_ n2_; clear hb ho5; obtain ⟨Ao6, co6, eo6⟩ := Kd.R_slice HO372.out; subst eo6) | ((with_reducible refine gate_callee (f := 40) rfl ?_); refine goesL_ (some 9) rfl rfl Try.func40 (by kernel_rfl) rfl #[.bool false, .slice Ao6 y370.length co6] rfl (by (try simp only [List.map_toArray, List.map_cons, List.map_nil]); first | done | rfl | (simp only [List.length_drop, List.length_take]; rfl)) ?_; (with_reducible refine (spec_wide.calls k false (fun k_ => some k_ = (.slice Ao6 y370.length co6 : Value).ownBlock) _ _ y370 t373 t374 _ ?side1 A2.out).mono ?_); (case side1 => exact Kd.R_V (Kd.R_tight rfl (Kd.R_types (HO372.out) BK369.out (by decide)))); rintro e w7 ⟨v375, rfl, ho0, hb⟩; refine ⟨_, rfl, ?_⟩; have n0_ := Aside0.mk (Kd.R_below (by (with_reducible repeat (first | apply Kd.R_alloc | apply Kd.R_drewN | apply Kd.R_drew)); exact HO372.out) hb); have n1_ := Aside0.mk (Kd.V_lower (Kd.V_mono (ok' := fun k_ => (w.heap.size ≤ k_) ∧ k_ ≠ gb369) ho0 (fun k_ hk_ => ⟨Or.elim hk_ (fun hs_ => ((Kd.R_types (HO372.out) BK369.out (by decide)).1 k_ hs_.symm).1.1) (fun hn_ => (Nat.le_trans (below_size (by repeat (first | (with_reducible first | exact HB.out | apply below_alloc | apply pw_below_drewN | apply below_drew1 | refine below_set ?_ GE369.out) | exact HB.out))) hn_)), Or.elim hk_ (fun hs_ => ((Kd.R_types (HO372.out) BK369.out (by decide)).1 k_ hs_.symm).2) (fun hn_ => (Kd.freshB (g := gb369) (o := .cells #[.bool false, .slice none 0 0] 27 (0, 0)) (by (with_reducible repeat (first | refine blk_drewN ?_ _ | refine blk_drew ?_ | refine blk_alloc ?_ _)); exact BK369.out) k_ hn_))⟩)) (below_size (by repeat (first | (with_reducible first | exact HB.out | apply below_alloc | apply pw_below_drewN | apply below_drew1 | refine below_set ?_ GE369.out) | exact HB.out)))); have n2_ := Aside0.mk (blk_below (g := gb369) (o := .cells #[.bool false, .slice none 0 0] 27 (0, 0)) (by (with_reducible repeat (first | refine blk_drewN ?_ _ | refine blk_drew ?_ | refine blk_alloc ?_ _)); exact BK369.out) hb); have n3_ := Aside0.mk (below_step (by repeat (first | (with_reducible first | exact HB.out | apply below_alloc | apply pw_below_drewN | apply below_drew1 | refine below_set ?_ GE369.out) | exact HB.out)) hb); clear HO372; clear BK369; clear HB; have HO372 := n0_; have HO376 := n1_; have BK369 := n2_; have HB := n3_; clear n0_ n1_ n2_ n3_; (try clear hb); (try clear hb2); (try clear hk); (try clear hi); (try clear ho0); have hcz8_0 : w7.cell? ⟨gb369, 0, none⟩ = some (.bool false) := (blk_cell BK369.out 0).trans rfl; have hcz8_1 : w7.cell? ⟨gb369, 1, none⟩ = some (.slice none 0 0) := (blk_cell BK369.out 1).trans rfl; have hfz8_0 := blk_frozen BK369.out 0; have hfz8_1 := blk_frozen BK369.out 1; obtain ⟨Ao9, co9, eo9⟩ := Kd.V_slice HO376.out; subst eo9))
  refine bodyPost_ret (results_cell_row rfl _ _ gb369 27 #[.bool t373, .slice Ao9 t374.length co9] (0, 0) _ rfl (by (with_reducible repeat (first | refine blk_drewN ?_ _ | refine blk_drew ?_ | refine blk_alloc ?_ _)); refine blk_put (cs := #[.bool t373, .slice none 0 0]) ?_ 1 _ rfl; (with_reducible repeat (first | refine blk_drewN ?_ _ | refine blk_drew ?_ | refine blk_alloc ?_ _)); refine blk_put (cs := #[.bool false, .slice none 0 0]) ?_ 0 _ rfl; (with_reducible repeat (first | refine blk_drewN ?_ _ | refine blk_drew ?_ | refine blk_alloc ?_ _)); exact BK369.out) Try.underlying27 rfl (by kernel_rfl)) rfl ?_
  exact ⟨_, by first | rfl | (simp [errW_none, errW_some] <;> rfl) | (simp [*, errW_none, errW_some] <;> rfl), by (with_reducible repeat (first | apply Kd.V_alloc | apply Kd.V_drewN | apply Kd.V_drew)); exact Kd.V_mono (Kd.V_far (p := ⟨gb369, 1, none⟩) (Kd.V_far (p := ⟨gb369, 0, none⟩) (Kd.V_mono HO376.out (fun k_ hk => (⟨hk, hk.2⟩ : _ ∧ k_ ≠ gb369))) (fun _ hk => hk.2) (.bool t373)) (fun _ hk => hk.2) (.slice Ao9 t374.length co9)) (fun _ hk => hk.1.1), by repeat (first | (with_reducible first | exact HB.out | apply below_alloc | apply pw_below_drewN | apply below_drew1 | refine below_set ?_ GE369.out) | exact HB.out)⟩

/-! ### kernels_SizeOf_uint16: function 90 -/
def kernels_SizeOf_uint16.f  : Option (Int) := some (IntKind.u64.wrap ((IntKind.u64.wrap ((1 + (256 / 256)) + ((IntKind.u64.wrap (IntKind.u16.wrap (131072))) / 65536))) + ((IntKind.u64.wrap (IntKind.u16.wrap (17179869184))) / 4294967296)))
set_option maxHeartbeats 8000000 in
set_option maxRecDepth 100000 in
theorem kernels_SizeOf_uint16.calls  (r : Int) (w : World) (h : kernels_SizeOf_uint16.f  = some r) :
    Calls Try.prog 90 #[] w fun e w' => e = .returned (.int .u64 r) ∧ Drawn0 w w' := by
  have H : (some (IntKind.u64.wrap ((IntKind.u64.wrap ((1 + (256 / 256)) + ((IntKind.u64.wrap (IntKind.u16.wrap (131072))) / 65536))) + ((IntKind.u64.wrap (IntKind.u16.wrap (17179869184))) / 4294967296)))) = some r := h
  clear h
  obtain rfl := Option.some.inj H
  go_enter Try.func90, Try.ntmps90
  go_wp2
  go_ret
  exact ⟨by first | rfl | (simp; done) | (simp [*]; done), by repeat (first | exact Drawn0.refl _ | apply Drawn0.step)⟩

end Go.Proofs.Ytnjniacohbeonaa.Q
