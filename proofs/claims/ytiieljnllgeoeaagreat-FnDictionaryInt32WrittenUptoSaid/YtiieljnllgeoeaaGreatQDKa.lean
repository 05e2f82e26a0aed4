-- written by programs of ours (wip/tools) out of the kit's printer: the functions of one law, less those that are shared or proved by hand
import Derived.Test.YtiieljnllgeoeaaGreatQ0
namespace Go.Proofs.YtiieljnllgeoeaaGreat.Q
open Go.RowKit Go.Proofs.YtiieljnllgeoeaaGreatW.PrintWords Go.Proofs.YtiieljnllgeoeaaGreatW.PrintLast Go.Proofs.YtiieljnllgeoeaaGreatW.PrintMore
attribute [local go_sem] max2_int min2_int max_two min_two max_three min_three max_four min_four
set_option linter.unusedVariables false
set_option linter.unusedSimpArgs false

/-! ### memory_roundToPowerOf2: function 74 -/
def memory_roundToPowerOf2.f (a0 : Int) (a1 : Int) : Option (Int) := some (Go.bits .and .i64 (wrap64 (a0 + (wrap64 (a1 - 1)))) (Go.bits .xor .i64 (-1) (wrap64 (a1 - 1))))
set_option maxHeartbeats 8000000 in
set_option maxRecDepth 100000 in
theorem memory_roundToPowerOf2.calls (a0 : Int) (a1 : Int) (r : Int) (w : World) (h : memory_roundToPowerOf2.f a0 a1 = some r) :
  Calls Tryz.prog 74 #[.int .i64 a0, .int .i64 a1] w fun e w' => e = .returned (.int .i64 r) ∧ Drawn0 w w' := by
 have H : (some (Go.bits .and .i64 (wrap64 (a0 + (wrap64 (a1 - 1)))) (Go.bits .xor .i64 (-1) (wrap64 (a1 - 1))))) = some r := h
 clear h
 obtain rfl := Option.some.inj H
 go_enter Tryz.func74, Tryz.ntmps74
 go_wp2
 go_ret
 exact ⟨by first | rfl | (simp; done) | (simp [*]; done), by repeat (first | exact Drawn0.refl _ | apply Drawn0.step)⟩

/-! ### memory_roundUpToMultipleOf64: function 56 -/
def memory_roundUpToMultipleOf64.f (a0 : Int) : Option (Int) := (memory_roundToPowerOf2.f a0 64).bind fun t101 => (some t101)
set_option maxHeartbeats 8000000 in
set_option maxRecDepth 100000 in
theorem memory_roundUpToMultipleOf64.calls (a0 : Int) (r : Int) (w : World) (h : memory_roundUpToMultipleOf64.f a0 = some r) :
  Calls Tryz.prog 56 #[.int .i64 a0] w fun e w' => e = .returned (.int .i64 r) ∧ Drawn0 w w' := by
 have H : ((memory_roundToPowerOf2.f a0 64).bind fun t101 => (some t101)) = some r := h
 clear h
 replace H := Option.bind_eq_some_iff.mp H
 obtain ⟨t101, A20, H⟩ := H
 replace H : (some t101) = some r := H
 have A2 := Aside0.mk A20
 clear A20
 obtain rfl := Option.some.inj H
 go_enter Tryz.func56, Tryz.ntmps56
 go_wp2_with (first | ((with_reducible refine gate_callee (f := 74) rfl ?_); refine goesL_ (some 4) rfl rfl Tryz.func74 (by kernel_rfl) rfl #[.int .i64 a0, .int .i64 64] rfl (by (try simp only [List.map_toArray, List.map_cons, List.map_nil]); first | done | rfl | (simp only [List.length_drop, List.length_take]; rfl)) ?_; (with_reducible refine (memory_roundToPowerOf2.calls a0 64 t101 _ A2.out).mono ?_); rintro e w' ⟨rfl, ⟨nd, rfl⟩⟩; refine ⟨_, rfl, ?_⟩))
 go_ret
 exact ⟨by first | rfl | (simp; done) | (simp [*]; done), by repeat (first | exact Drawn0.refl _ | apply Drawn0.step)⟩

/-! ### utils_Max_int: function 104 -/
def utils_Max_int.f (a0 : Int) (a1 : Int) : Option (Int) := if a0 > a1 then (some a0) else (some a1)
set_option maxHeartbeats 8000000 in
set_option maxRecDepth 100000 in
theorem utils_Max_int.calls (a0 : Int) (a1 : Int) (r : Int) (w : World) (h : utils_Max_int.f a0 a1 = some r) :
  Calls Tryz.prog 104 #[.int .i64 a0, .int .i64 a1] w fun e w' => e = .returned (.int .i64 r) ∧ Drawn0 w w' := by
 have H : (if a0 > a1 then (some a0) else (some a1)) = some r := h
 clear h
 by_cases c3 : a0 > a1
 ·rw [if_pos c3] at H
  have c3b0 : decide (a1 < a0) = true := decide_eq_true c3
  clear c3
  obtain rfl := Option.some.inj H
  go_enter Tryz.func104, Tryz.ntmps104
  go_wp2
  go_ret
  exact ⟨by first | rfl | (simp; done) | (simp [*]; done), by repeat (first | exact Drawn0.refl _ | apply Drawn0.step)⟩
 ·rw [if_neg c3] at H
  have c3b0 : decide (a1 < a0) = false := decide_eq_false c3
  clear c3
  obtain rfl := Option.some.inj H
  go_enter Tryz.func104, Tryz.ntmps104
  go_wp2
  go_ret
  exact ⟨by first | rfl | (simp; done) | (simp [*]; done), by repeat (first | exact Drawn0.refl _ | apply Drawn0.step)⟩

/-! ### impl_listInt32: function 16 -/
def impl_listInt32.l0 : Nat → List Int → List (S29) → Int → Int → Option (List Int)
 | 0, _, _, _, _ => none
 | k + 1, x2, x5, x6, x7 => if x7 < x6 then (if 0 ≤ x7 then (if x7 < (x5.length : Int) then (if x2.length < 35184372088832 then (impl_listInt32.l0 k (x2 ++ [wrap32 ((rd_T29 x5 x7).f1)]) x5 x6 (wrap64 (x7 + 1))) else (none)) else (none)) else (none)) else (some x2)
def impl_listInt32.f (k : Nat) (l0 : List (S29)) : Option (List Int) := impl_listInt32.l0 k ([] : List Int) l0 (l0.length : Int) 0
theorem impl_listInt32.mono_l : ∀ k, (∀ y0 y1 y2 y3, LeO (impl_listInt32.l0 k y0 y1 y2 y3) (impl_listInt32.l0 (k + 1) y0 y1 y2 y3))
 | 0 => fun _ _ _ _ r h => by simp [impl_listInt32.l0] at h
 | k + 1 => by
  have ih0 := impl_listInt32.mono_l k
  ·intro y0 y1 y2 y3
   unfold impl_listInt32.l0
   repeat' first
   | (with_reducible exact ih0 _ _ _ _)
   | (with_reducible exact LeO.refl _)
   | (with_reducible exact LeO.none _)
   | (with_reducible refine LeO.ite ?_ ?_)
   | (with_reducible refine LeO.bind ?_ (fun _ => ?_))
   | exact ih0 _ _ _ _
   | exact LeO.none _
   | refine LeO.ite ?_ ?_
   | refine LeO.bind ?_ (fun _ => ?_)
theorem impl_listInt32.mono : ∀ a0 k, LeO (impl_listInt32.f k a0) (impl_listInt32.f (k + 1) a0) := by
 intro a0 k
 have ih0 := impl_listInt32.mono_l k
 unfold impl_listInt32.f
 repeat' first
   | (with_reducible exact ih0 _ _ _ _)
   | (with_reducible exact LeO.refl _)
   | (with_reducible exact LeO.none _)
   | (with_reducible refine LeO.ite ?_ ?_)
   | (with_reducible refine LeO.bind ?_ (fun _ => ?_))
   | exact ih0 _ _ _ _
   | exact LeO.none _
   | refine LeO.ite ?_ ?_
   | refine LeO.bind ?_ (fun _ => ?_)
set_option maxHeartbeats 8000000 in
set_option maxRecDepth 100000 in
theorem impl_listInt32.calls (k : Nat) (A0 : Option Addr) (c0 : Nat) (l0 : List (S29)) (r : List Int) (w : World) (hr0 : Kd.C k29 w A0 l0.length l0) (hc0 : l0.length ≤ c0) (h : impl_listInt32.f k l0 = some r) :
  Calls Tryz.prog 16 #[.slice A0 l0.length c0] w fun e w' => ∃ v0_ : Value, e = .returned (v0_) ∧ Kd.R (Kd.int .i32) 21 w' w.heap.size (fun _ => True) v0_ r ∧ Below w.heap.size w w' := by
 have hu29 := Tryz.underlying29
 have HR0 := Aside0.mk hr0
 have HC0 := Aside0.mk hc0
 clear hr0 hc0
 have HB := Aside0.mk (Below.refl w.heap.size w)
 have H : (impl_listInt32.l0 k ([] : List Int) l0 (l0.length : Int) 0) = some r := h
 clear h
 have H' := Aside0.mk H
 clear H
 go_enter Tryz.func16, Tryz.ntmps16
 go_wp2
 go_loopg [2, 7] k (fun kq v2 v7 w' => ∃ (x2_1 : List Int) (x7_1 : Int), v7 = .int .i64 x7_1 ∧ Aside0 (impl_listInt32.l0 kq x2_1 l0 (l0.length : Int) x7_1 = some r) ∧ Aside0 (kq ≤ k) ∧ Aside0 (Kd.R (Kd.int .i32) 21 w' w.heap.size (fun _ => True) v2 x2_1) ∧ Aside0 (Below w.heap.size w w'))
 case atStart => exact ⟨(([] : List Int)), (0), (by first | rfl | (simp; done) | (simp [*]; done)), H', ⟨Nat.le_refl _⟩, ⟨by first | exact Kd.R_nil _ _ _ _ _ | exact Kd.N_nil _ _ _ _ _ | exact Kd.V_nil _ _ _ _ _ | exact Kd.Q_nil _ _ _ _ _ | exact Kd.S_nil _ _ _ _ _⟩, ⟨by repeat (first | (with_reducible first | exact HB.out | apply below_alloc | apply pw_below_drewN | apply below_drew1) | exact HB.out)⟩⟩
 case round =>
  clear H'
  try clear c1
  obtain ⟨x2_1, x7_1, rfl, HA, HK1, HO_2, HB⟩ := hrel
  cases gk with
  | zero => exact absurd HA.out (by simp [impl_listInt32.l0])
  | succ k1 =>
   have H := HA.out
   clear HA
   simp only [impl_listInt32.l0] at H
   by_cases c2 : x7_1 < (l0.length : Int)
   ·rw [if_pos c2] at H
    have c2b0 : decide (x7_1 < (l0.length : Int)) = true := decide_eq_true c2
    clear c2
    by_cases c3 : 0 ≤ x7_1
    ·rw [if_pos c3] at H
     have c3b0 : decide (0 ≤ x7_1) = true := decide_eq_true c3
     clear c3
     by_cases c4 : x7_1 < (l0.length : Int)
     ·rw [if_pos c4] at H
      have c4b0 : decide (x7_1 < (l0.length : Int)) = true := decide_eq_true c4
      clear c4
      by_cases c5 : x2_1.length < 35184372088832
      ·rw [if_pos c5] at H
       have LMc5 := Aside0.mk c5
       clear c5
       obtain ⟨y107, hy107⟩ : ∃ y_ : List Int, y_ = (x2_1 ++ [wrap32 ((rd_T29 l0 x7_1).f1)]) := ⟨_, rfl⟩
       replace H : (impl_listInt32.l0 k1 y107 l0 (l0.length : Int) (wrap64 (x7_1 + 1))) = some r := by first | (rw [hy107]; with_reducible exact H) | (have H2_ := (Option.bind_some _ _).symm.trans H; rw [hy107]; with_reducible exact H2_) | (have H2_ := (Option.bind_some _ _).symm.trans H; with_reducible exact H2_) | with_reducible exact H | (rw [hy107]; exact H) | exact H
       have Ny107 := Aside0.mk hy107
       clear hy107
       have H' := Aside0.mk H
       clear H
       have p105 : 0 ≤ (x7_1 : Int) := of_decide_eq_true (by first | (with_reducible assumption) | assumption)
       have q105 : x7_1 < (l0.length : Int) := of_decide_eq_true (by first | (with_reducible assumption) | assumption)
       obtain ⟨ad105, A105_3, c105_3, e105, hx105_0, hx105_1, hx105_2, hx105_3, hl105_3, hi105_3⟩ := at_T29 HR0.out x7_1 p105 q105
       cases e105
       replace hx105_0 := (HB.out.cell (World.block_lt_of_cell? w _ hx105_0)).trans hx105_0
       replace hx105_1 := (HB.out.cell (World.block_lt_of_cell? w _ hx105_1)).trans hx105_1
       replace hx105_2 := (HB.out.cell (World.block_lt_of_cell? w _ hx105_2)).trans hx105_2
       replace hx105_3 := (HB.out.cell (World.block_lt_of_cell? w _ hx105_3)).trans hx105_3
       have HR105_3 := Aside0.mk hi105_3
       have HC105_3 := Aside0.mk hl105_3
       clear hi105_3 hl105_3
       replace p105 := eq_true p105
       replace q105 := eq_true q105
       go_wp2_with (first | ((with_reducible refine gate_dst (N := 4) rfl ?_); refine box_event ?hg (N := 4) ?hd (cs := #[.bool false, .int .u64 0, .string (⟨#[]⟩ : ByteArray), .slice none 0 0]) (t := 29) ?hr ?_; (case hd => rfl); (case hg => rfl); (case hr => first | (go_simp; done) | (go_simp; rfl)); intro gb106 hg w6 hbox hb; have n0_ := Aside0.mk (Kd.R_below (by (with_reducible repeat (first | apply Kd.R_alloc | apply Kd.R_drewN | apply Kd.R_drew)); exact HO_2.out) hb); have n1_ := Aside0.mk (below_step (by repeat (first | (with_reducible first | exact HB.out | apply below_alloc | apply pw_below_drewN | apply below_drew1) | exact HB.out)) hb); have n2_ := Aside0.mk (hbox); have n3_ := Aside0.mk ((by rw [hg]; exact (below_size (by repeat (first | (with_reducible first | exact HB.out | apply below_alloc | apply pw_below_drewN | apply below_drew1) | exact HB.out))) : w.heap.size ≤ gb106)); have n4_ := Aside0.mk ((by rw [hg]; exact (below_size (by repeat (first | (with_reducible first | exact HB.out | apply below_alloc | apply pw_below_drewN | apply below_drew1) | exact HB.out))) : w.heap.size ≤ gb106)); clear HO_2; clear HB; have HO_2 := n0_; have HB := n1_; have BK106 := n2_; have GW106 := n3_; have GE106 := n4_; clear n0_ n1_ n2_ n3_ n4_; clear hb hbox hg; have hcz7_0 : w6.cell? ⟨gb106, 0, none⟩ = some (.bool false) := (blk_cell BK106.out 0).trans rfl; have hcz7_1 : w6.cell? ⟨gb106, 1, none⟩ = some (.int .u64 0) := (blk_cell BK106.out 1).trans rfl; have hcz7_2 : w6.cell? ⟨gb106, 2, none⟩ = some (.string (⟨#[]⟩ : ByteArray)) := (blk_cell BK106.out 2).trans rfl; have hcz7_3 : w6.cell? ⟨gb106, 3, none⟩ = some (.slice none 0 0) := (blk_cell BK106.out 3).trans rfl; have hfz7_0 := blk_frozen BK106.out 0; have hfz7_1 := blk_frozen BK106.out 1; have hfz7_2 := blk_frozen BK106.out 2; have hfz7_3 := blk_frozen BK106.out 3) | ((with_reducible refine gate_builtin (b := .append) (xs := #[.tmp 11, .tmp 15]) rfl ?_); at_builtin; refine Kd.R_append (Kd.int .i32) (w0 := w) w.heap.size rfl (.tmp 11) (.tmp 15) 52 21 (.int .i32 0) 4 rfl Tryz.underlying52 info21 rfl (by decide) (by omega) u2 x2_1 (wrap32 ((rd_T29 l0 x7_1).f1)) [.int .i32 (wrap32 ((rd_T29 l0 x7_1).f1))] (fun _ => True) (fun _ => False) rfl (by first | (go_simp; done) | (go_simp; rfl)) ?aP (fun _ hk => hk.elim) ?aF ?aO ?aB ?aS ?aL ?_; (case aP => exact rfl); (case aB => exact (by repeat (first | (with_reducible first | exact HB.out | apply below_alloc | apply pw_below_drewN | apply below_drew1 | refine below_set ?_ GE106.out) | exact HB.out))); (case aF => exact (fun _ _ => trivial)); (case aO => exact (by (with_reducible repeat (first | apply Kd.R_alloc | apply Kd.R_drewN | apply Kd.R_drew)); exact Kd.R_mono (Kd.R_far (p := ⟨gb106, 3, none⟩) (Kd.R_far (p := ⟨gb106, 2, none⟩) (Kd.R_far (p := ⟨gb106, 1, none⟩) (Kd.R_far (p := ⟨gb106, 0, none⟩) (Kd.R_types HO_2.out BK106.out (by decide)) (fun _ hk => hk.2) (.bool ((rd_T29 l0 x7_1).f0))) (fun _ hk => hk.2) (.int .u64 ((rd_T29 l0 x7_1).f1))) (fun _ hk => hk.2) (.string ((rd_T29 l0 x7_1).f2))) (fun _ hk => hk.2) (.slice A105_3 ((rd_T29 l0 x7_1).f3).length c105_3)) (fun _ hk => trivial))); (case aS => exact (below_size (by repeat (first | (with_reducible first | exact HB.out | apply below_alloc | apply pw_below_drewN | apply below_drew1 | refine below_set ?_ GE106.out) | exact HB.out)))); (case aL => have := LMc5.out; omega); intro v108 w8 ho hb hg hat; rw [← Ny107.out] at ho; have n0_ := Aside0.mk (blk_grown (g := gb106) (o := .cells #[.bool ((rd_T29 l0 x7_1).f0), .int .u64 ((rd_T29 l0 x7_1).f1), .string ((rd_T29 l0 x7_1).f2), .slice A105_3 ((rd_T29 l0 x7_1).f3).length c105_3] 29 (0, 0)) (by (with_reducible repeat (first | refine blk_drewN ?_ _ | refine blk_drew ?_ | refine blk_alloc ?_ _)); refine blk_put (cs := #[.bool ((rd_T29 l0 x7_1).f0), .int .u64 ((rd_T29 l0 x7_1).f1), .string ((rd_T29 l0 x7_1).f2), .slice none 0 0]) ?_ 3 _ rfl; (with_reducible repeat (first | refine blk_drewN ?_ _ | refine blk_drew ?_ | refine blk_alloc ?_ _)); refine blk_put (cs := #[.bool ((rd_T29 l0 x7_1).f0), .int .u64 ((rd_T29 l0 x7_1).f1), .string (⟨#[]⟩ : ByteArray), .slice none 0 0]) ?_ 2 _ rfl; (with_reducible repeat (first | refine blk_drewN ?_ _ | refine blk_drew ?_ | refine blk_alloc ?_ _)); refine blk_put (cs := #[.bool ((rd_T29 l0 x7_1).f0), .int .u64 0, .string (⟨#[]⟩ : ByteArray), .slice none 0 0]) ?_ 1 _ rfl; (with_reducible repeat (first | refine blk_drewN ?_ _ | refine blk_drew ?_ | refine blk_alloc ?_ _)); refine blk_put (cs := #[.bool false, .int .u64 0, .string (⟨#[]⟩ : ByteArray), .slice none 0 0]) ?_ 0 _ rfl; (with_reducible repeat (first | refine blk_drewN ?_ _ | refine blk_drew ?_ | refine blk_alloc ?_ _)); exact BK106.out) hg (Kd.R_ne HO_2.out BK106.out (by decide))); have n1_ := Aside0.mk (hb); have n2_ := Aside0.mk (ho); clear BK106; clear HB; clear HO_2; have BK106 := n0_; have HB := n1_; have HO109 := n2_; clear n0_ n1_ n2_; clear ho hb hg hat))
       go_roundg k1
       case measure => have := HK1.out; omega
       case rel => exact ⟨(y107), (wrap64 (x7_1 + 1)), (by first | rfl | (simp; done) | (simp [*]; done)), H', ⟨by have := HK1.out; omega⟩, ⟨by (with_reducible repeat (first | apply Kd.R_alloc | apply Kd.R_drewN | apply Kd.R_drew)); exact HO109.out⟩, ⟨by repeat (first | (with_reducible first | exact HB.out | apply below_alloc | apply pw_below_drewN | apply below_drew1 | refine below_set ?_ GE106.out) | exact HB.out)⟩⟩
      ·rw [if_neg c5] at H
       exact absurd H (by simp)
     ·rw [if_neg c4] at H
      exact absurd H (by simp)
    ·rw [if_neg c3] at H
     exact absurd H (by simp)
   ·rw [if_neg c2] at H
    have c2b0 : decide (x7_1 < (l0.length : Int)) = false := decide_eq_false c2
    clear c2
    obtain rfl := Option.some.inj H
    go_wp2
    go_ret
    exact ⟨_, by first | rfl | (simp [errW_none, errW_some] <;> rfl) | (simp [*, errW_none, errW_some] <;> rfl), by (with_reducible repeat (first | apply Kd.R_alloc | apply Kd.R_drewN | apply Kd.R_drew)); exact HO_2.out, by repeat (first | (with_reducible first | exact HB.out | apply below_alloc | apply pw_below_drewN | apply below_drew1) | exact HB.out)⟩

/-! ### impl_copied: function 35 -/
def impl_copied.f (l0 : List Int) : Option (List Int) := (some (([] : List Int) : List Int)).bind fun y110 => (if y110.length + l0.length < 140737488355328 then (some (y110 ++ l0)) else (none))
set_option maxHeartbeats 8000000 in
set_option maxRecDepth 100000 in
theorem impl_copied.calls (A0 : Option Addr) (c0 : Nat) (l0 : List Int) (r : List Int) (w : World) (hr0 : Kd.C (Kd.int .u8) w A0 l0.length l0) (hc0 : l0.length ≤ c0) (h : impl_copied.f l0 = some r) :
  Calls Tryz.prog 35 #[.slice A0 l0.length c0] w fun e w' => ∃ v0_ : Value, e = .returned (v0_) ∧ Kd.R (Kd.int .u8) 5 w' w.heap.size (fun _ => True) v0_ r ∧ Below w.heap.size w w' := by
 have HR0 := Aside0.mk hr0
 have HC0 := Aside0.mk hc0
 clear hr0 hc0
 have HB := Aside0.mk (Below.refl w.heap.size w)
 have H : ((some (([] : List Int) : List Int)).bind fun y110 => (if y110.length + l0.length < 140737488355328 then (some (y110 ++ l0)) else (none))) = some r := h
 clear h
 obtain ⟨y110, hy110⟩ : ∃ y_ : List Int, y_ = (([] : List Int)) := ⟨_, rfl⟩
 replace H : (if y110.length + l0.length < 140737488355328 then (some (y110 ++ l0)) else (none)) = some r := by first | (rw [hy110]; with_reducible exact H) | (have H2_ := (Option.bind_some _ _).symm.trans H; rw [hy110]; with_reducible exact H2_) | (have H2_ := (Option.bind_some _ _).symm.trans H; with_reducible exact H2_) | with_reducible exact H | (rw [hy110]; exact H) | exact H
 have Ny110 := Aside0.mk hy110
 clear hy110
 by_cases c2 : y110.length + l0.length < 140737488355328
 ·rw [if_pos c2] at H
  have LMc2 := Aside0.mk c2
  clear c2
  obtain ⟨y113, hy113⟩ : ∃ y_ : List Int, y_ = (y110 ++ l0) := ⟨_, rfl⟩
  replace H : (some y113) = some r := by first | (rw [hy113]; with_reducible exact H) | (have H2_ := (Option.bind_some _ _).symm.trans H; rw [hy113]; with_reducible exact H2_) | (have H2_ := (Option.bind_some _ _).symm.trans H; with_reducible exact H2_) | with_reducible exact H | (rw [hy113]; exact H) | exact H
  have Ny113 := Aside0.mk hy113
  clear hy113
  obtain rfl := Option.some.inj H
  go_enter Tryz.func35, Tryz.ntmps35
  go_wp2_with (first | ((with_reducible refine gate_dst (N := 3) rfl ?_); refine Kd.R_lit (Kd.int .u8) _ 5 ?hg (N := 3) ?hd (xs := ([] : List Int)) (inner := []) (ok := fun _ => True) (okp := fun _ => True) ?hr ?hp (fun _ hk => hk) trivial (Below.refl _ _) (Nat.le_refl _) (by simp) ?_; (case hd => rfl); (case hg => rfl); (case hr => first | (go_simp; done) | (go_simp; rfl)); (case hp => exact (Reps.none _ _)); intro v111 w3 ho4 hb hg_ hnew_; clear hg_ hnew_; (first | rw [← Ny110.out] at ho4 | (simp only [Int.reduceToNat] at ho4; rw [← Ny110.out] at ho4)); have n0_ := Aside0.mk (Kd.R_lower ho4 (below_size (by repeat (first | (with_reducible first | exact HB.out | apply below_alloc | apply pw_below_drewN | apply below_drew1) | exact HB.out)))); have n1_ := Aside0.mk (below_step (by repeat (first | (with_reducible first | exact HB.out | apply below_alloc | apply pw_below_drewN | apply below_drew1) | exact HB.out)) hb); clear HB; have HO112 := n0_; have HB := n1_; clear n0_ n1_; clear hb ho4) | ((with_reducible refine gate_builtin (b := .append) (xs := #[.tmp 3, .tmp 4]) rfl ?_); at_builtin; refine Kd.R_append_rows (Kd.int .u8) (w0 := w) w.heap.size rfl (.tmp 3) (.tmp 4) 23 5 (.int .u8 0) 1 rfl Tryz.underlying23 info5 rfl (by decide) (by omega) v111 y110 l0 _ _ _ (fun _ => True) (fun _ => False) rfl rfl ?aO ?aR (fun _ _ h => h) (fun _ h => h.elim) ?aF ?aB ?aS ?aL ?_; (case aR => repeat (first | exact (Kd.C_below HR0.out HB.out) | (with_reducible refine Kd.C_alloc ?_ _) | (with_reducible refine Kd.C_drewN ?_ _) | (with_reducible refine Kd.C_drew ?_))); (case aB => exact (by repeat (first | (with_reducible first | exact HB.out | apply below_alloc | apply pw_below_drewN | apply below_drew1) | exact HB.out))); (case aF => exact (fun _ _ => trivial)); (case aO => exact (by (with_reducible repeat (first | apply Kd.R_alloc | apply Kd.R_drewN | apply Kd.R_drew)); exact HO112.out)); (case aS => exact (below_size (by repeat (first | (with_reducible first | exact HB.out | apply below_alloc | apply pw_below_drewN | apply below_drew1) | exact HB.out)))); (case aL => have := LMc2.out; omega); intro v114 w5 ho hb hg hat; rw [← Ny113.out] at ho; have n0_ := Aside0.mk (hb); have n1_ := Aside0.mk (ho); clear HB; clear HO112; have HB := n0_; have HO115 := n1_; clear n0_ n1_; clear ho hb hg hat))
  go_ret
  exact ⟨_, by first | rfl | (simp [errW_none, errW_some] <;> rfl) | (simp [*, errW_none, errW_some] <;> rfl), by (with_reducible repeat (first | apply Kd.R_alloc | apply Kd.R_drewN | apply Kd.R_drew)); exact HO115.out, by repeat (first | (with_reducible first | exact HB.out | apply below_alloc | apply pw_below_drewN | apply below_drew1) | exact HB.out)⟩
 ·rw [if_neg c2] at H
  exact absurd H (by simp)

/-! ### spec_OneBits: function 48 -/
def spec_OneBits.j0 : Nat → Int → Bool → Int → Int → Bool → Int → Int → Int → ByteArray → Bool → List Int → List Int → Option (Int × Bool)
 | 0, _, _, _, _, _, _, _, _, _, _, _, _ => none
 | k + 1, x5, x29, x123000, x123001, x123002, x123003, x123004, x123005, x123006, x123007, x123008, x123009 => if x29 = true then (some (64, true)) else (if x5 = 11 then ((some (([32, 64, 0] : List Int) : List Int)).bind fun y123 => (if 0 ≤ x123003 then (if x123003 < (y123.length : Int) then (some (rd y123 x123003, true)) else (none)) else (none))) else (some (0, false)))
def spec_OneBits.f (k : Nat) (a0_0 : Int) (a0_1 : Int) (a0_2 : Bool) (a0_3 : Int) (a0_4 : Int) (a0_5 : Int) (a0_6 : ByteArray) (a0_7 : Bool) (l0_8 : List Int) (l0_9 : List Int) : Option (Int × Bool) := if a0_0 = 2 then (some (a0_1, a0_2)) else (if a0_0 = 3 then (some (a0_1, false)) else (if a0_0 = 6 then (some (1, false)) else (if a0_0 = 8 then (some (wrap64 (32 + (wrap64 (32 * a0_3))), true)) else (if a0_0 = 9 then (if a0_3 < 2 then (some (32, true)) else (some (64, true))) else (if a0_0 = 10 then (spec_OneBits.j0 k a0_0 (a0_0 == 10) a0_0 a0_1 a0_2 a0_3 a0_4 a0_5 a0_6 a0_7 l0_8 l0_9) else (spec_OneBits.j0 k a0_0 (a0_0 == 18) a0_0 a0_1 a0_2 a0_3 a0_4 a0_5 a0_6 a0_7 l0_8 l0_9))))))
theorem spec_OneBits.mono_l : ∀ k, (∀ y0 y1 y2 y3 y4 y5 y6 y7 y8 y9 y10 y11, LeO (spec_OneBits.j0 k y0 y1 y2 y3 y4 y5 y6 y7 y8 y9 y10 y11) (spec_OneBits.j0 (k + 1) y0 y1 y2 y3 y4 y5 y6 y7 y8 y9 y10 y11))
 | 0 => fun _ _ _ _ _ _ _ _ _ _ _ _ r h => by simp [spec_OneBits.j0] at h
 | k + 1 => by
  have ih0 := spec_OneBits.mono_l k
  ·intro y0 y1 y2 y3 y4 y5 y6 y7 y8 y9 y10 y11
   unfold spec_OneBits.j0
   repeat' first
   | (with_reducible exact ih0 _ _ _ _ _ _ _ _ _ _ _ _)
   | (with_reducible exact LeO.refl _)
   | (with_reducible exact LeO.none _)
   | (with_reducible refine LeO.ite ?_ ?_)
   | (with_reducible refine LeO.bind ?_ (fun _ => ?_))
   | exact ih0 _ _ _ _ _ _ _ _ _ _ _ _
   | exact LeO.none _
   | refine LeO.ite ?_ ?_
   | refine LeO.bind ?_ (fun _ => ?_)
theorem spec_OneBits.mono : ∀ a0 a1 a2 a3 a4 a5 a6 a7 a8 a9 k, LeO (spec_OneBits.f k a0 a1 a2 a3 a4 a5 a6 a7 a8 a9) (spec_OneBits.f (k + 1) a0 a1 a2 a3 a4 a5 a6 a7 a8 a9) := by
 intro a0 a1 a2 a3 a4 a5 a6 a7 a8 a9 k
 have ih0 := spec_OneBits.mono_l k
 unfold spec_OneBits.f
 repeat' first
   | (with_reducible exact ih0 _ _ _ _ _ _ _ _ _ _ _ _)
   | (with_reducible exact LeO.refl _)
   | (with_reducible exact LeO.none _)
   | (with_reducible refine LeO.ite ?_ ?_)
   | (with_reducible refine LeO.bind ?_ (fun _ => ?_))
   | exact ih0 _ _ _ _ _ _ _ _ _ _ _ _
   | exact LeO.none _
   | refine LeO.ite ?_ ?_
   | refine LeO.bind ?_ (fun _ => ?_)
set_option maxHeartbeats 8000000 in
set_option maxRecDepth 100000 in
theorem spec_OneBits.calls (k : Nat) (a0_0 : Int) (a0_1 : Int) (a0_2 : Bool) (a0_3 : Int) (a0_4 : Int) (a0_5 : Int) (a0_6 : ByteArray) (a0_7 : Bool) (A0_8 : Option Addr) (c0_8 : Nat) (l0_8 : List Int) (A0_9 : Option Addr) (c0_9 : Nat) (l0_9 : List Int) (r1 : Int) (r2 : Bool) (w : World) (hr0_8 : Kd.C (Kd.int .i64) w A0_8 l0_8.length l0_8) (hc0_8 : l0_8.length ≤ c0_8) (hr0_9 : Kd.C (Kd.int .i64) w A0_9 l0_9.length l0_9) (hc0_9 : l0_9.length ≤ c0_9) (h : spec_OneBits.f k a0_0 a0_1 a0_2 a0_3 a0_4 a0_5 a0_6 a0_7 l0_8 l0_9 = some (r1, r2)) :
  Calls Tryz.prog 48 #[.agg #[.int .i64 a0_0, .int .i64 a0_1, .bool a0_2, .int .i64 a0_3, .int .i64 a0_4, .int .i64 a0_5, .string a0_6, .bool a0_7, .slice A0_8 l0_8.length c0_8, .slice A0_9 l0_9.length c0_9]] w fun e w' => e = .returned (.tuple #[.int .i64 r1, .bool r2]) ∧ Below w.heap.size w w' := by
 have hu35 := Tryz.underlying35
 have HR0_8 := Aside0.mk hr0_8
 have HC0_8 := Aside0.mk hc0_8
 clear hr0_8 hc0_8
 have HR0_9 := Aside0.mk hr0_9
 have HC0_9 := Aside0.mk hc0_9
 clear hr0_9 hc0_9
 have HB := Aside0.mk (Below.refl w.heap.size w)
 have H : (if a0_0 = 2 then (some (a0_1, a0_2)) else (if a0_0 = 3 then (some (a0_1, false)) else (if a0_0 = 6 then (some (1, false)) else (if a0_0 = 8 then (some (wrap64 (32 + (wrap64 (32 * a0_3))), true)) else (if a0_0 = 9 then (if a0_3 < 2 then (some (32, true)) else (some (64, true))) else (if a0_0 = 10 then (spec_OneBits.j0 k a0_0 (a0_0 == 10) a0_0 a0_1 a0_2 a0_3 a0_4 a0_5 a0_6 a0_7 l0_8 l0_9) else (spec_OneBits.j0 k a0_0 (a0_0 == 18) a0_0 a0_1 a0_2 a0_3 a0_4 a0_5 a0_6 a0_7 l0_8 l0_9))))))) = some (r1, r2) := h
 clear h
 by_cases c2 : a0_0 = 2
 ·rw [if_pos c2] at H
  have c2b0 : (a0_0 == 2) = true := beq_iff_eq.mpr c2
  have c2b1 : (a0_0 != 2) = false := bne_eq_false_iff_eq.mpr c2
  clear c2
  simp only [Option.some.injEq, Prod.mk.injEq] at H
  obtain ⟨rfl, rfl⟩ := H
  go_enter Tryz.func48, Tryz.ntmps48
  go_wp2_with (first | ((with_reducible refine gate_dst (N := 1) rfl ?_); refine box_event ?hg (N := 1) ?hd (cs := #[.int .i64 a0_0, .int .i64 a0_1, .bool a0_2, .int .i64 a0_3, .int .i64 a0_4, .int .i64 a0_5, .string a0_6, .bool a0_7, .slice A0_8 l0_8.length c0_8, .slice A0_9 l0_9.length c0_9]) (t := 35) ?hr ?_; (case hd => rfl); (case hg => rfl); (case hr => first | (go_simp; done) | (go_simp; rfl)); intro gb122 hg w3 hbox hb; have n0_ := Aside0.mk (below_step (by repeat (first | (with_reducible first | exact HB.out | apply below_alloc | apply pw_below_drewN | apply below_drew1) | exact HB.out)) hb); have n1_ := Aside0.mk (hbox); have n2_ := Aside0.mk ((by rw [hg]; exact (below_size (by repeat (first | (with_reducible first | exact HB.out | apply below_alloc | apply pw_below_drewN | apply below_drew1) | exact HB.out))) : w.heap.size ≤ gb122)); have n3_ := Aside0.mk ((by rw [hg]; exact (below_size (by repeat (first | (with_reducible first | exact HB.out | apply below_alloc | apply pw_below_drewN | apply below_drew1) | exact HB.out))) : w.heap.size ≤ gb122)); clear HB; have HB := n0_; have BK122 := n1_; have GW122 := n2_; have GE122 := n3_; clear n0_ n1_ n2_ n3_; clear hb hbox hg; have hcz4_0 : w3.cell? ⟨gb122, 0, none⟩ = some (.int .i64 a0_0) := (blk_cell BK122.out 0).trans rfl; have hcz4_1 : w3.cell? ⟨gb122, 1, none⟩ = some (.int .i64 a0_1) := (blk_cell BK122.out 1).trans rfl; have hcz4_2 : w3.cell? ⟨gb122, 2, none⟩ = some (.bool a0_2) := (blk_cell BK122.out 2).trans rfl; have hcz4_3 : w3.cell? ⟨gb122, 3, none⟩ = some (.int .i64 a0_3) := (blk_cell BK122.out 3).trans rfl; have hcz4_4 : w3.cell? ⟨gb122, 4, none⟩ = some (.int .i64 a0_4) := (blk_cell BK122.out 4).trans rfl; have hcz4_5 : w3.cell? ⟨gb122, 5, none⟩ = some (.int .i64 a0_5) := (blk_cell BK122.out 5).trans rfl; have hcz4_6 : w3.cell? ⟨gb122, 6, none⟩ = some (.string a0_6) := (blk_cell BK122.out 6).trans rfl; have hcz4_7 : w3.cell? ⟨gb122, 7, none⟩ = some (.bool a0_7) := (blk_cell BK122.out 7).trans rfl; have hcz4_8 : w3.cell? ⟨gb122, 8, none⟩ = some (.slice A0_8 l0_8.length c0_8) := (blk_cell BK122.out 8).trans rfl; have hcz4_9 : w3.cell? ⟨gb122, 9, none⟩ = some (.slice A0_9 l0_9.length c0_9) := (blk_cell BK122.out 9).trans rfl; have hfz4_0 := blk_frozen BK122.out 0; have hfz4_1 := blk_frozen BK122.out 1; have hfz4_2 := blk_frozen BK122.out 2; have hfz4_3 := blk_frozen BK122.out 3; have hfz4_4 := blk_frozen BK122.out 4; have hfz4_5 := blk_frozen BK122.out 5; have hfz4_6 := blk_frozen BK122.out 6; have hfz4_7 := blk_frozen BK122.out 7; have hfz4_8 := blk_frozen BK122.out 8; have hfz4_9 := blk_frozen BK122.out 9))
  repeat (go_quiet (first | ((with_reducible refine gate_dst (N := 1) rfl ?_); refine box_event ?hg (N := 1) ?hd (cs := #[.int .i64 a0_0, .int .i64 a0_1, .bool a0_2, .int .i64 a0_3, .int .i64 a0_4, .int .i64 a0_5, .string a0_6, .bool a0_7, .slice A0_8 l0_8.length c0_8, .slice A0_9 l0_9.length c0_9]) (t := 35) ?hr ?_; (case hd => rfl); (case hg => rfl); (case hr => first | (go_simp; done) | (go_simp; rfl)); intro gb122 hg w3 hbox hb; have n0_ := Aside0.mk (below_step (by repeat (first | (with_reducible first | exact HB.out | apply below_alloc | apply pw_below_drewN | apply below_drew1) | exact HB.out)) hb); have n1_ := Aside0.mk (hbox); have n2_ := Aside0.mk ((by rw [hg]; exact (below_size (by repeat (first | (with_reducible first | exact HB.out | apply below_alloc | apply pw_below_drewN | apply below_drew1) | exact HB.out))) : w.heap.size ≤ gb122)); have n3_ := Aside0.mk ((by rw [hg]; exact (below_size (by repeat (first | (with_reducible first | exact HB.out | apply below_alloc | apply pw_below_drewN | apply below_drew1) | exact HB.out))) : w.heap.size ≤ gb122)); clear HB; have HB := n0_; have BK122 := n1_; have GW122 := n2_; have GE122 := n3_; clear n0_ n1_ n2_ n3_; clear hb hbox hg; have hcz4_0 : w3.cell? ⟨gb122, 0, none⟩ = some (.int .i64 a0_0) := (blk_cell BK122.out 0).trans rfl; have hcz4_1 : w3.cell? ⟨gb122, 1, none⟩ = some (.int .i64 a0_1) := (blk_cell BK122.out 1).trans rfl; have hcz4_2 : w3.cell? ⟨gb122, 2, none⟩ = some (.bool a0_2) := (blk_cell BK122.out 2).trans rfl; have hcz4_3 : w3.cell? ⟨gb122, 3, none⟩ = some (.int .i64 a0_3) := (blk_cell BK122.out 3).trans rfl; have hcz4_4 : w3.cell? ⟨gb122, 4, none⟩ = some (.int .i64 a0_4) := (blk_cell BK122.out 4).trans rfl; have hcz4_5 : w3.cell? ⟨gb122, 5, none⟩ = some (.int .i64 a0_5) := (blk_cell BK122.out 5).trans rfl; have hcz4_6 : w3.cell? ⟨gb122, 6, none⟩ = some (.string a0_6) := (blk_cell BK122.out 6).trans rfl; have hcz4_7 : w3.cell? ⟨gb122, 7, none⟩ = some (.bool a0_7) := (blk_cell BK122.out 7).trans rfl; have hcz4_8 : w3.cell? ⟨gb122, 8, none⟩ = some (.slice A0_8 l0_8.length c0_8) := (blk_cell BK122.out 8).trans rfl; have hcz4_9 : w3.cell? ⟨gb122, 9, none⟩ = some (.slice A0_9 l0_9.length c0_9) := (blk_cell BK122.out 9).trans rfl; have hfz4_0 := blk_frozen BK122.out 0; have hfz4_1 := blk_frozen BK122.out 1; have hfz4_2 := blk_frozen BK122.out 2; have hfz4_3 := blk_frozen BK122.out 3; have hfz4_4 := blk_frozen BK122.out 4; have hfz4_5 := blk_frozen BK122.out 5; have hfz4_6 := blk_frozen BK122.out 6; have hfz4_7 := blk_frozen BK122.out 7; have hfz4_8 := blk_frozen BK122.out 8; have hfz4_9 := blk_frozen BK122.out 9)); try go_wp2_with (first | ((with_reducible refine gate_dst (N := 1) rfl ?_); refine box_event ?hg (N := 1) ?hd (cs := #[.int .i64 a0_0, .int .i64 a0_1, .bool a0_2, .int .i64 a0_3, .int .i64 a0_4, .int .i64 a0_5, .string a0_6, .bool a0_7, .slice A0_8 l0_8.length c0_8, .slice A0_9 l0_9.length c0_9]) (t := 35) ?hr ?_; (case hd => rfl); (case hg => rfl); (case hr => first | (go_simp; done) | (go_simp; rfl)); intro gb122 hg w3 hbox hb; have n0_ := Aside0.mk (below_step (by repeat (first | (with_reducible first | exact HB.out | apply below_alloc | apply pw_below_drewN | apply below_drew1) | exact HB.out)) hb); have n1_ := Aside0.mk (hbox); have n2_ := Aside0.mk ((by rw [hg]; exact (below_size (by repeat (first | (with_reducible first | exact HB.out | apply below_alloc | apply pw_below_drewN | apply below_drew1) | exact HB.out))) : w.heap.size ≤ gb122)); have n3_ := Aside0.mk ((by rw [hg]; exact (below_size (by repeat (first | (with_reducible first | exact HB.out | apply below_alloc | apply pw_below_drewN | apply below_drew1) | exact HB.out))) : w.heap.size ≤ gb122)); clear HB; have HB := n0_; have BK122 := n1_; have GW122 := n2_; have GE122 := n3_; clear n0_ n1_ n2_ n3_; clear hb hbox hg; have hcz4_0 : w3.cell? ⟨gb122, 0, none⟩ = some (.int .i64 a0_0) := (blk_cell BK122.out 0).trans rfl; have hcz4_1 : w3.cell? ⟨gb122, 1, none⟩ = some (.int .i64 a0_1) := (blk_cell BK122.out 1).trans rfl; have hcz4_2 : w3.cell? ⟨gb122, 2, none⟩ = some (.bool a0_2) := (blk_cell BK122.out 2).trans rfl; have hcz4_3 : w3.cell? ⟨gb122, 3, none⟩ = some (.int .i64 a0_3) := (blk_cell BK122.out 3).trans rfl; have hcz4_4 : w3.cell? ⟨gb122, 4, none⟩ = some (.int .i64 a0_4) := (blk_cell BK122.out 4).trans rfl; have hcz4_5 : w3.cell? ⟨gb122, 5, none⟩ = some (.int .i64 a0_5) := (blk_cell BK122.out 5).trans rfl; have hcz4_6 : w3.cell? ⟨gb122, 6, none⟩ = some (.string a0_6) := (blk_cell BK122.out 6).trans rfl; have hcz4_7 : w3.cell? ⟨gb122, 7, none⟩ = some (.bool a0_7) := (blk_cell BK122.out 7).trans rfl; have hcz4_8 : w3.cell? ⟨gb122, 8, none⟩ = some (.slice A0_8 l0_8.length c0_8) := (blk_cell BK122.out 8).trans rfl; have hcz4_9 : w3.cell? ⟨gb122, 9, none⟩ = some (.slice A0_9 l0_9.length c0_9) := (blk_cell BK122.out 9).trans rfl; have hfz4_0 := blk_frozen BK122.out 0; have hfz4_1 := blk_frozen BK122.out 1; have hfz4_2 := blk_frozen BK122.out 2; have hfz4_3 := blk_frozen BK122.out 3; have hfz4_4 := blk_frozen BK122.out 4; have hfz4_5 := blk_frozen BK122.out 5; have hfz4_6 := blk_frozen BK122.out 6; have hfz4_7 := blk_frozen BK122.out 7; have hfz4_8 := blk_frozen BK122.out 8; have hfz4_9 := blk_frozen BK122.out 9)))
  go_ret2
  exact ⟨by first | rfl | (simp [errW_none, errW_some] <;> rfl) | (simp [*, errW_none, errW_some] <;> rfl), by repeat (first | (with_reducible first | exact HB.out | apply below_alloc | apply pw_below_drewN | apply below_drew1 | refine below_set ?_ GE122.out) | exact HB.out)⟩
 ·rw [if_neg c2] at H
  have c2b0 : (a0_0 == 2) = false := beq_eq_false_iff_ne.mpr c2
  have c2b1 : (a0_0 != 2) = true := bne_iff_ne.mpr c2
  by_cases c5 : a0_0 = 3
  ·rw [if_pos c5] at H
   have c5b0 : (a0_0 == 3) = true := beq_iff_eq.mpr c5
   have c5b1 : (a0_0 != 3) = false := bne_eq_false_iff_eq.mpr c5
   clear c5
   simp only [Option.some.injEq, Prod.mk.injEq] at H
   obtain ⟨rfl, rfl⟩ := H
   go_enter Tryz.func48, Tryz.ntmps48
   go_wp2_with (first | ((with_reducible refine gate_dst (N := 1) rfl ?_); refine box_event ?hg (N := 1) ?hd (cs := #[.int .i64 a0_0, .int .i64 a0_1, .bool a0_2, .int .i64 a0_3, .int .i64 a0_4, .int .i64 a0_5, .string a0_6, .bool a0_7, .slice A0_8 l0_8.length c0_8, .slice A0_9 l0_9.length c0_9]) (t := 35) ?hr ?_; (case hd => rfl); (case hg => rfl); (case hr => first | (go_simp; done) | (go_simp; rfl)); intro gb122 hg w6 hbox hb; have n0_ := Aside0.mk (below_step (by repeat (first | (with_reducible first | exact HB.out | apply below_alloc | apply pw_below_drewN | apply below_drew1) | exact HB.out)) hb); have n1_ := Aside0.mk (hbox); have n2_ := Aside0.mk ((by rw [hg]; exact (below_size (by repeat (first | (with_reducible first | exact HB.out | apply below_alloc | apply pw_below_drewN | apply below_drew1) | exact HB.out))) : w.heap.size ≤ gb122)); have n3_ := Aside0.mk ((by rw [hg]; exact (below_size (by repeat (first | (with_reducible first | exact HB.out | apply below_alloc | apply pw_below_drewN | apply below_drew1) | exact HB.out))) : w.heap.size ≤ gb122)); clear HB; have HB := n0_; have BK122 := n1_; have GW122 := n2_; have GE122 := n3_; clear n0_ n1_ n2_ n3_; clear hb hbox hg; have hcz7_0 : w6.cell? ⟨gb122, 0, none⟩ = some (.int .i64 a0_0) := (blk_cell BK122.out 0).trans rfl; have hcz7_1 : w6.cell? ⟨gb122, 1, none⟩ = some (.int .i64 a0_1) := (blk_cell BK122.out 1).trans rfl; have hcz7_2 : w6.cell? ⟨gb122, 2, none⟩ = some (.bool a0_2) := (blk_cell BK122.out 2).trans rfl; have hcz7_3 : w6.cell? ⟨gb122, 3, none⟩ = some (.int .i64 a0_3) := (blk_cell BK122.out 3).trans rfl; have hcz7_4 : w6.cell? ⟨gb122, 4, none⟩ = some (.int .i64 a0_4) := (blk_cell BK122.out 4).trans rfl; have hcz7_5 : w6.cell? ⟨gb122, 5, none⟩ = some (.int .i64 a0_5) := (blk_cell BK122.out 5).trans rfl; have hcz7_6 : w6.cell? ⟨gb122, 6, none⟩ = some (.string a0_6) := (blk_cell BK122.out 6).trans rfl; have hcz7_7 : w6.cell? ⟨gb122, 7, none⟩ = some (.bool a0_7) := (blk_cell BK122.out 7).trans rfl; have hcz7_8 : w6.cell? ⟨gb122, 8, none⟩ = some (.slice A0_8 l0_8.length c0_8) := (blk_cell BK122.out 8).trans rfl; have hcz7_9 : w6.cell? ⟨gb122, 9, none⟩ = some (.slice A0_9 l0_9.length c0_9) := (blk_cell BK122.out 9).trans rfl; have hfz7_0 := blk_frozen BK122.out 0; have hfz7_1 := blk_frozen BK122.out 1; have hfz7_2 := blk_frozen BK122.out 2; have hfz7_3 := blk_frozen BK122.out 3; have hfz7_4 := blk_frozen BK122.out 4; have hfz7_5 := blk_frozen BK122.out 5; have hfz7_6 := blk_frozen BK122.out 6; have hfz7_7 := blk_frozen BK122.out 7; have hfz7_8 := blk_frozen BK122.out 8; have hfz7_9 := blk_frozen BK122.out 9))
   repeat (go_quiet (first | ((with_reducible refine gate_dst (N := 1) rfl ?_); refine box_event ?hg (N := 1) ?hd (cs := #[.int .i64 a0_0, .int .i64 a0_1, .bool a0_2, .int .i64 a0_3, .int .i64 a0_4, .int .i64 a0_5, .string a0_6, .bool a0_7, .slice A0_8 l0_8.length c0_8, .slice A0_9 l0_9.length c0_9]) (t := 35) ?hr ?_; (case hd => rfl); (case hg => rfl); (case hr => first | (go_simp; done) | (go_simp; rfl)); intro gb122 hg w6 hbox hb; have n0_ := Aside0.mk (below_step (by repeat (first | (with_reducible first | exact HB.out | apply below_alloc | apply pw_below_drewN | apply below_drew1) | exact HB.out)) hb); have n1_ := Aside0.mk (hbox); have n2_ := Aside0.mk ((by rw [hg]; exact (below_size (by repeat (first | (with_reducible first | exact HB.out | apply below_alloc | apply pw_below_drewN | apply below_drew1) | exact HB.out))) : w.heap.size ≤ gb122)); have n3_ := Aside0.mk ((by rw [hg]; exact (below_size (by repeat (first | (with_reducible first | exact HB.out | apply below_alloc | apply pw_below_drewN | apply below_drew1) | exact HB.out))) : w.heap.size ≤ gb122)); clear HB; have HB := n0_; have BK122 := n1_; have GW122 := n2_; have GE122 := n3_; clear n0_ n1_ n2_ n3_; clear hb hbox hg; have hcz7_0 : w6.cell? ⟨gb122, 0, none⟩ = some (.int .i64 a0_0) := (blk_cell BK122.out 0).trans rfl; have hcz7_1 : w6.cell? ⟨gb122, 1, none⟩ = some (.int .i64 a0_1) := (blk_cell BK122.out 1).trans rfl; have hcz7_2 : w6.cell? ⟨gb122, 2, none⟩ = some (.bool a0_2) := (blk_cell BK122.out 2).trans rfl; have hcz7_3 : w6.cell? ⟨gb122, 3, none⟩ = some (.int .i64 a0_3) := (blk_cell BK122.out 3).trans rfl; have hcz7_4 : w6.cell? ⟨gb122, 4, none⟩ = some (.int .i64 a0_4) := (blk_cell BK122.out 4).trans rfl; have hcz7_5 : w6.cell? ⟨gb122, 5, none⟩ = some (.int .i64 a0_5) := (blk_cell BK122.out 5).trans rfl; have hcz7_6 : w6.cell? ⟨gb122, 6, none⟩ = some (.string a0_6) := (blk_cell BK122.out 6).trans rfl; have hcz7_7 : w6.cell? ⟨gb122, 7, none⟩ = some (.bool a0_7) := (blk_cell BK122.out 7).trans rfl; have hcz7_8 : w6.cell? ⟨gb122, 8, none⟩ = some (.slice A0_8 l0_8.length c0_8) := (blk_cell BK122.out 8).trans rfl; have hcz7_9 : w6.cell? ⟨gb122, 9, none⟩ = some (.slice A0_9 l0_9.length c0_9) := (blk_cell BK122.out 9).trans rfl; have hfz7_0 := blk_frozen BK122.out 0; have hfz7_1 := blk_frozen BK122.out 1; have hfz7_2 := blk_frozen BK122.out 2; have hfz7_3 := blk_frozen BK122.out 3; have hfz7_4 := blk_frozen BK122.out 4; have hfz7_5 := blk_frozen BK122.out 5; have hfz7_6 := blk_frozen BK122.out 6; have hfz7_7 := blk_frozen BK122.out 7; have hfz7_8 := blk_frozen BK122.out 8; have hfz7_9 := blk_frozen BK122.out 9)); try go_wp2_with (first | ((with_reducible refine gate_dst (N := 1) rfl ?_); refine box_event ?hg (N := 1) ?hd (cs := #[.int .i64 a0_0, .int .i64 a0_1, .bool a0_2, .int .i64 a0_3, .int .i64 a0_4, .int .i64 a0_5, .string a0_6, .bool a0_7, .slice A0_8 l0_8.length c0_8, .slice A0_9 l0_9.length c0_9]) (t := 35) ?hr ?_; (case hd => rfl); (case hg => rfl); (case hr => first | (go_simp; done) | (go_simp; rfl)); intro gb122 hg w6 hbox hb; have n0_ := Aside0.mk (below_step (by repeat (first | (with_reducible first | exact HB.out | apply below_alloc | apply pw_below_drewN | apply below_drew1) | exact HB.out)) hb); have n1_ := Aside0.mk (hbox); have n2_ := Aside0.mk ((by rw [hg]; exact (below_size (by repeat (first | (with_reducible first | exact HB.out | apply below_alloc | apply pw_below_drewN | apply below_drew1) | exact HB.out))) : w.heap.size ≤ gb122)); have n3_ := Aside0.mk ((by rw [hg]; exact (below_size (by repeat (first | (with_reducible first | exact HB.out | apply below_alloc | apply pw_below_drewN | apply below_drew1) | exact HB.out))) : w.heap.size ≤ gb122)); clear HB; have HB := n0_; have BK122 := n1_; have GW122 := n2_; have GE122 := n3_; clear n0_ n1_ n2_ n3_; clear hb hbox hg; have hcz7_0 : w6.cell? ⟨gb122, 0, none⟩ = some (.int .i64 a0_0) := (blk_cell BK122.out 0).trans rfl; have hcz7_1 : w6.cell? ⟨gb122, 1, none⟩ = some (.int .i64 a0_1) := (blk_cell BK122.out 1).trans rfl; have hcz7_2 : w6.cell? ⟨gb122, 2, none⟩ = some (.bool a0_2) := (blk_cell BK122.out 2).trans rfl; have hcz7_3 : w6.cell? ⟨gb122, 3, none⟩ = some (.int .i64 a0_3) := (blk_cell BK122.out 3).trans rfl; have hcz7_4 : w6.cell? ⟨gb122, 4, none⟩ = some (.int .i64 a0_4) := (blk_cell BK122.out 4).trans rfl; have hcz7_5 : w6.cell? ⟨gb122, 5, none⟩ = some (.int .i64 a0_5) := (blk_cell BK122.out 5).trans rfl; have hcz7_6 : w6.cell? ⟨gb122, 6, none⟩ = some (.string a0_6) := (blk_cell BK122.out 6).trans rfl; have hcz7_7 : w6.cell? ⟨gb122, 7, none⟩ = some (.bool a0_7) := (blk_cell BK122.out 7).trans rfl; have hcz7_8 : w6.cell? ⟨gb122, 8, none⟩ = some (.slice A0_8 l0_8.length c0_8) := (blk_cell BK122.out 8).trans rfl; have hcz7_9 : w6.cell? ⟨gb122, 9, none⟩ = some (.slice A0_9 l0_9.length c0_9) := (blk_cell BK122.out 9).trans rfl; have hfz7_0 := blk_frozen BK122.out 0; have hfz7_1 := blk_frozen BK122.out 1; have hfz7_2 := blk_frozen BK122.out 2; have hfz7_3 := blk_frozen BK122.out 3; have hfz7_4 := blk_frozen BK122.out 4; have hfz7_5 := blk_frozen BK122.out 5; have hfz7_6 := blk_frozen BK122.out 6; have hfz7_7 := blk_frozen BK122.out 7; have hfz7_8 := blk_frozen BK122.out 8; have hfz7_9 := blk_frozen BK122.out 9)))
   go_ret2
   exact ⟨by first | rfl | (simp [errW_none, errW_some] <;> rfl) | (simp [*, errW_none, errW_some] <;> rfl), by repeat (first | (with_reducible first | exact HB.out | apply below_alloc | apply pw_below_drewN | apply below_drew1 | refine below_set ?_ GE122.out) | exact HB.out)⟩
  ·rw [if_neg c5] at H
   have c5b0 : (a0_0 == 3) = false := beq_eq_false_iff_ne.mpr c5
   have c5b1 : (a0_0 != 3) = true := bne_iff_ne.mpr c5
   by_cases c8 : a0_0 = 6
   ·rw [if_pos c8] at H
    have c8b0 : (a0_0 == 6) = true := beq_iff_eq.mpr c8
    have c8b1 : (a0_0 != 6) = false := bne_eq_false_iff_eq.mpr c8
    clear c8
    simp only [Option.some.injEq, Prod.mk.injEq] at H
    obtain ⟨rfl, rfl⟩ := H
    go_enter Tryz.func48, Tryz.ntmps48
    go_wp2_with (first | ((with_reducible refine gate_dst (N := 1) rfl ?_); refine box_event ?hg (N := 1) ?hd (cs := #[.int .i64 a0_0, .int .i64 a0_1, .bool a0_2, .int .i64 a0_3, .int .i64 a0_4, .int .i64 a0_5, .string a0_6, .bool a0_7, .slice A0_8 l0_8.length c0_8, .slice A0_9 l0_9.length c0_9]) (t := 35) ?hr ?_; (case hd => rfl); (case hg => rfl); (case hr => first | (go_simp; done) | (go_simp; rfl)); intro gb122 hg w9 hbox hb; have n0_ := Aside0.mk (below_step (by repeat (first | (with_reducible first | exact HB.out | apply below_alloc | apply pw_below_drewN | apply below_drew1) | exact HB.out)) hb); have n1_ := Aside0.mk (hbox); have n2_ := Aside0.mk ((by rw [hg]; exact (below_size (by repeat (first | (with_reducible first | exact HB.out | apply below_alloc | apply pw_below_drewN | apply below_drew1) | exact HB.out))) : w.heap.size ≤ gb122)); have n3_ := Aside0.mk ((by rw [hg]; exact (below_size (by repeat (first | (with_reducible first | exact HB.out | apply below_alloc | apply pw_below_drewN | apply below_drew1) | exact HB.out))) : w.heap.size ≤ gb122)); clear HB; have HB := n0_; have BK122 := n1_; have GW122 := n2_; have GE122 := n3_; clear n0_ n1_ n2_ n3_; clear hb hbox hg; have hcz10_0 : w9.cell? ⟨gb122, 0, none⟩ = some (.int .i64 a0_0) := (blk_cell BK122.out 0).trans rfl; have hcz10_1 : w9.cell? ⟨gb122, 1, none⟩ = some (.int .i64 a0_1) := (blk_cell BK122.out 1).trans rfl; have hcz10_2 : w9.cell? ⟨gb122, 2, none⟩ = some (.bool a0_2) := (blk_cell BK122.out 2).trans rfl; have hcz10_3 : w9.cell? ⟨gb122, 3, none⟩ = some (.int .i64 a0_3) := (blk_cell BK122.out 3).trans rfl; have hcz10_4 : w9.cell? ⟨gb122, 4, none⟩ = some (.int .i64 a0_4) := (blk_cell BK122.out 4).trans rfl; have hcz10_5 : w9.cell? ⟨gb122, 5, none⟩ = some (.int .i64 a0_5) := (blk_cell BK122.out 5).trans rfl; have hcz10_6 : w9.cell? ⟨gb122, 6, none⟩ = some (.string a0_6) := (blk_cell BK122.out 6).trans rfl; have hcz10_7 : w9.cell? ⟨gb122, 7, none⟩ = some (.bool a0_7) := (blk_cell BK122.out 7).trans rfl; have hcz10_8 : w9.cell? ⟨gb122, 8, none⟩ = some (.slice A0_8 l0_8.length c0_8) := (blk_cell BK122.out 8).trans rfl; have hcz10_9 : w9.cell? ⟨gb122, 9, none⟩ = some (.slice A0_9 l0_9.length c0_9) := (blk_cell BK122.out 9).trans rfl; have hfz10_0 := blk_frozen BK122.out 0; have hfz10_1 := blk_frozen BK122.out 1; have hfz10_2 := blk_frozen BK122.out 2; have hfz10_3 := blk_frozen BK122.out 3; have hfz10_4 := blk_frozen BK122.out 4; have hfz10_5 := blk_frozen BK122.out 5; have hfz10_6 := blk_frozen BK122.out 6; have hfz10_7 := blk_frozen BK122.out 7; have hfz10_8 := blk_frozen BK122.out 8; have hfz10_9 := blk_frozen BK122.out 9))
    repeat (go_quiet (first | ((with_reducible refine gate_dst (N := 1) rfl ?_); refine box_event ?hg (N := 1) ?hd (cs := #[.int .i64 a0_0, .int .i64 a0_1, .bool a0_2, .int .i64 a0_3, .int .i64 a0_4, .int .i64 a0_5, .string a0_6, .bool a0_7, .slice A0_8 l0_8.length c0_8, .slice A0_9 l0_9.length c0_9]) (t := 35) ?hr ?_; (case hd => rfl); (case hg => rfl); (case hr => first | (go_simp; done) | (go_simp; rfl)); intro gb122 hg w9 hbox hb; have n0_ := Aside0.mk (below_step (by repeat (first | (with_reducible first | exact HB.out | apply below_alloc | apply pw_below_drewN | apply below_drew1) | exact HB.out)) hb); have n1_ := Aside0.mk (hbox); have n2_ := Aside0.mk ((by rw [hg]; exact (below_size (by repeat (first | (with_reducible first | exact HB.out | apply below_alloc | apply pw_below_drewN | apply below_drew1) | exact HB.out))) : w.heap.size ≤ gb122)); have n3_ := Aside0.mk ((by rw [hg]; exact (below_size (by repeat (first | (with_reducible first | exact HB.out | apply below_alloc | apply pw_below_drewN | apply below_drew1) | exact HB.out))) : w.heap.size ≤ gb122)); clear HB; have HB := n0_; have BK122 := n1_; have GW122 := n2_; have GE122 := n3_; clear n0_ n1_ n2_ n3_; clear hb hbox hg; have hcz10_0 : w9.cell? ⟨gb122, 0, none⟩ = some (.int .i64 a0_0) := (blk_cell BK122.out 0).trans rfl; have hcz10_1 : w9.cell? ⟨gb122, 1, none⟩ = some (.int .i64 a0_1) := (blk_cell BK122.out 1).trans rfl; have hcz10_2 : w9.cell? ⟨gb122, 2, none⟩ = some (.bool a0_2) := (blk_cell BK122.out 2).trans rfl; have hcz10_3 : w9.cell? ⟨gb122, 3, none⟩ = some (.int .i64 a0_3) := (blk_cell BK122.out 3).trans rfl; have hcz10_4 : w9.cell? ⟨gb122, 4, none⟩ = some (.int .i64 a0_4) := (blk_cell BK122.out 4).trans rfl; have hcz10_5 : w9.cell? ⟨gb122, 5, none⟩ = some (.int .i64 a0_5) := (blk_cell BK122.out 5).trans rfl; have hcz10_6 : w9.cell? ⟨gb122, 6, none⟩ = some (.string a0_6) := (blk_cell BK122.out 6).trans rfl; have hcz10_7 : w9.cell? ⟨gb122, 7, none⟩ = some (.bool a0_7) := (blk_cell BK122.out 7).trans rfl; have hcz10_8 : w9.cell? ⟨gb122, 8, none⟩ = some (.slice A0_8 l0_8.length c0_8) := (blk_cell BK122.out 8).trans rfl; have hcz10_9 : w9.cell? ⟨gb122, 9, none⟩ = some (.slice A0_9 l0_9.length c0_9) := (blk_cell BK122.out 9).trans rfl; have hfz10_0 := blk_frozen BK122.out 0; have hfz10_1 := blk_frozen BK122.out 1; have hfz10_2 := blk_frozen BK122.out 2; have hfz10_3 := blk_frozen BK122.out 3; have hfz10_4 := blk_frozen BK122.out 4; have hfz10_5 := blk_frozen BK122.out 5; have hfz10_6 := blk_frozen BK122.out 6; have hfz10_7 := blk_frozen BK122.out 7; have hfz10_8 := blk_frozen BK122.out 8; have hfz10_9 := blk_frozen BK122.out 9)); try go_wp2_with (first | ((with_reducible refine gate_dst (N := 1) rfl ?_); refine box_event ?hg (N := 1) ?hd (cs := #[.int .i64 a0_0, .int .i64 a0_1, .bool a0_2, .int .i64 a0_3, .int .i64 a0_4, .int .i64 a0_5, .string a0_6, .bool a0_7, .slice A0_8 l0_8.length c0_8, .slice A0_9 l0_9.length c0_9]) (t := 35) ?hr ?_; (case hd => rfl); (case hg => rfl); (case hr => first | (go_simp; done) | (go_simp; rfl)); intro gb122 hg w9 hbox hb; have n0_ := Aside0.mk (below_step (by repeat (first | (with_reducible first | exact HB.out | apply below_alloc | apply pw_below_drewN | apply below_drew1) | exact HB.out)) hb); have n1_ := Aside0.mk (hbox); have n2_ := Aside0.mk ((by rw [hg]; exact (below_size (by repeat (first | (with_reducible first | exact HB.out | apply below_alloc | apply pw_below_drewN | apply below_drew1) | exact HB.out))) : w.heap.size ≤ gb122)); have n3_ := Aside0.mk ((by rw [hg]; exact (below_size (by repeat (first | (with_reducible first | exact HB.out | apply below_alloc | apply pw_below_drewN | apply below_drew1) | exact HB.out))) : w.heap.size ≤ gb122)); clear HB; have HB := n0_; have BK122 := n1_; have GW122 := n2_; have GE122 := n3_; clear n0_ n1_ n2_ n3_; clear hb hbox hg; have hcz10_0 : w9.cell? ⟨gb122, 0, none⟩ = some (.int .i64 a0_0) := (blk_cell BK122.out 0).trans rfl; have hcz10_1 : w9.cell? ⟨gb122, 1, none⟩ = some (.int .i64 a0_1) := (blk_cell BK122.out 1).trans rfl; have hcz10_2 : w9.cell? ⟨gb122, 2, none⟩ = some (.bool a0_2) := (blk_cell BK122.out 2).trans rfl; have hcz10_3 : w9.cell? ⟨gb122, 3, none⟩ = some (.int .i64 a0_3) := (blk_cell BK122.out 3).trans rfl; have hcz10_4 : w9.cell? ⟨gb122, 4, none⟩ = some (.int .i64 a0_4) := (blk_cell BK122.out 4).trans rfl; have hcz10_5 : w9.cell? ⟨gb122, 5, none⟩ = some (.int .i64 a0_5) := (blk_cell BK122.out 5).trans rfl; have hcz10_6 : w9.cell? ⟨gb122, 6, none⟩ = some (.string a0_6) := (blk_cell BK122.out 6).trans rfl; have hcz10_7 : w9.cell? ⟨gb122, 7, none⟩ = some (.bool a0_7) := (blk_cell BK122.out 7).trans rfl; have hcz10_8 : w9.cell? ⟨gb122, 8, none⟩ = some (.slice A0_8 l0_8.length c0_8) := (blk_cell BK122.out 8).trans rfl; have hcz10_9 : w9.cell? ⟨gb122, 9, none⟩ = some (.slice A0_9 l0_9.length c0_9) := (blk_cell BK122.out 9).trans rfl; have hfz10_0 := blk_frozen BK122.out 0; have hfz10_1 := blk_frozen BK122.out 1; have hfz10_2 := blk_frozen BK122.out 2; have hfz10_3 := blk_frozen BK122.out 3; have hfz10_4 := blk_frozen BK122.out 4; have hfz10_5 := blk_frozen BK122.out 5; have hfz10_6 := blk_frozen BK122.out 6; have hfz10_7 := blk_frozen BK122.out 7; have hfz10_8 := blk_frozen BK122.out 8; have hfz10_9 := blk_frozen BK122.out 9)))
    go_ret2
    exact ⟨by first | rfl | (simp [errW_none, errW_some] <;> rfl) | (simp [*, errW_none, errW_some] <;> rfl), by repeat (first | (with_reducible first | exact HB.out | apply below_alloc | apply pw_below_drewN | apply below_drew1 | refine below_set ?_ GE122.out) | exact HB.out)⟩
   ·rw [if_neg c8] at H
    have c8b0 : (a0_0 == 6) = false := beq_eq_false_iff_ne.mpr c8
    have c8b1 : (a0_0 != 6) = true := bne_iff_ne.mpr c8
    by_cases c11 : a0_0 = 8
    ·rw [if_pos c11] at H
     have c11b0 : (a0_0 == 8) = true := beq_iff_eq.mpr c11
     have c11b1 : (a0_0 != 8) = false := bne_eq_false_iff_eq.mpr c11
     clear c11
     simp only [Option.some.injEq, Prod.mk.injEq] at H
     obtain ⟨rfl, rfl⟩ := H
     go_enter Tryz.func48, Tryz.ntmps48
     go_wp2_with (first | ((with_reducible refine gate_dst (N := 1) rfl ?_); refine box_event ?hg (N := 1) ?hd (cs := #[.int .i64 a0_0, .int .i64 a0_1, .bool a0_2, .int .i64 a0_3, .int .i64 a0_4, .int .i64 a0_5, .string a0_6, .bool a0_7, .slice A0_8 l0_8.length c0_8, .slice A0_9 l0_9.length c0_9]) (t := 35) ?hr ?_; (case hd => rfl); (case hg => rfl); (case hr => first | (go_simp; done) | (go_simp; rfl)); intro gb122 hg w12 hbox hb; have n0_ := Aside0.mk (below_step (by repeat (first | (with_reducible first | exact HB.out | apply below_alloc | apply pw_below_drewN | apply below_drew1) | exact HB.out)) hb); have n1_ := Aside0.mk (hbox); have n2_ := Aside0.mk ((by rw [hg]; exact (below_size (by repeat (first | (with_reducible first | exact HB.out | apply below_alloc | apply pw_below_drewN | apply below_drew1) | exact HB.out))) : w.heap.size ≤ gb122)); have n3_ := Aside0.mk ((by rw [hg]; exact (below_size (by repeat (first | (with_reducible first | exact HB.out | apply below_alloc | apply pw_below_drewN | apply below_drew1) | exact HB.out))) : w.heap.size ≤ gb122)); clear HB; have HB := n0_; have BK122 := n1_; have GW122 := n2_; have GE122 := n3_; clear n0_ n1_ n2_ n3_; clear hb hbox hg; have hcz13_0 : w12.cell? ⟨gb122, 0, none⟩ = some (.int .i64 a0_0) := (blk_cell BK122.out 0).trans rfl; have hcz13_1 : w12.cell? ⟨gb122, 1, none⟩ = some (.int .i64 a0_1) := (blk_cell BK122.out 1).trans rfl; have hcz13_2 : w12.cell? ⟨gb122, 2, none⟩ = some (.bool a0_2) := (blk_cell BK122.out 2).trans rfl; have hcz13_3 : w12.cell? ⟨gb122, 3, none⟩ = some (.int .i64 a0_3) := (blk_cell BK122.out 3).trans rfl; have hcz13_4 : w12.cell? ⟨gb122, 4, none⟩ = some (.int .i64 a0_4) := (blk_cell BK122.out 4).trans rfl; have hcz13_5 : w12.cell? ⟨gb122, 5, none⟩ = some (.int .i64 a0_5) := (blk_cell BK122.out 5).trans rfl; have hcz13_6 : w12.cell? ⟨gb122, 6, none⟩ = some (.string a0_6) := (blk_cell BK122.out 6).trans rfl; have hcz13_7 : w12.cell? ⟨gb122, 7, none⟩ = some (.bool a0_7) := (blk_cell BK122.out 7).trans rfl; have hcz13_8 : w12.cell? ⟨gb122, 8, none⟩ = some (.slice A0_8 l0_8.length c0_8) := (blk_cell BK122.out 8).trans rfl; have hcz13_9 : w12.cell? ⟨gb122, 9, none⟩ = some (.slice A0_9 l0_9.length c0_9) := (blk_cell BK122.out 9).trans rfl; have hfz13_0 := blk_frozen BK122.out 0; have hfz13_1 := blk_frozen BK122.out 1; have hfz13_2 := blk_frozen BK122.out 2; have hfz13_3 := blk_frozen BK122.out 3; have hfz13_4 := blk_frozen BK122.out 4; have hfz13_5 := blk_frozen BK122.out 5; have hfz13_6 := blk_frozen BK122.out 6; have hfz13_7 := blk_frozen BK122.out 7; have hfz13_8 := blk_frozen BK122.out 8; have hfz13_9 := blk_frozen BK122.out 9))
     repeat (go_quiet (first | ((with_reducible refine gate_dst (N := 1) rfl ?_); refine box_event ?hg (N := 1) ?hd (cs := #[.int .i64 a0_0, .int .i64 a0_1, .bool a0_2, .int .i64 a0_3, .int .i64 a0_4, .int .i64 a0_5, .string a0_6, .bool a0_7, .slice A0_8 l0_8.length c0_8, .slice A0_9 l0_9.length c0_9]) (t := 35) ?hr ?_; (case hd => rfl); (case hg => rfl); (case hr => first | (go_simp; done) | (go_simp; rfl)); intro gb122 hg w12 hbox hb; have n0_ := Aside0.mk (below_step (by repeat (first | (with_reducible first | exact HB.out | apply below_alloc | apply pw_below_drewN | apply below_drew1) | exact HB.out)) hb); have n1_ := Aside0.mk (hbox); have n2_ := Aside0.mk ((by rw [hg]; exact (below_size (by repeat (first | (with_reducible first | exact HB.out | apply below_alloc | apply pw_below_drewN | apply below_drew1) | exact HB.out))) : w.heap.size ≤ gb122)); have n3_ := Aside0.mk ((by rw [hg]; exact (below_size (by repeat (first | (with_reducible first | exact HB.out | apply below_alloc | apply pw_below_drewN | apply below_drew1) | exact HB.out))) : w.heap.size ≤ gb122)); clear HB; have HB := n0_; have BK122 := n1_; have GW122 := n2_; have GE122 := n3_; clear n0_ n1_ n2_ n3_; clear hb hbox hg; have hcz13_0 : w12.cell? ⟨gb122, 0, none⟩ = some (.int .i64 a0_0) := (blk_cell BK122.out 0).trans rfl; have hcz13_1 : w12.cell? ⟨gb122, 1, none⟩ = some (.int .i64 a0_1) := (blk_cell BK122.out 1).trans rfl; have hcz13_2 : w12.cell? ⟨gb122, 2, none⟩ = some (.bool a0_2) := (blk_cell BK122.out 2).trans rfl; have hcz13_3 : w12.cell? ⟨gb122, 3, none⟩ = some (.int .i64 a0_3) := (blk_cell BK122.out 3).trans rfl; have hcz13_4 : w12.cell? ⟨gb122, 4, none⟩ = some (.int .i64 a0_4) := (blk_cell BK122.out 4).trans rfl; have hcz13_5 : w12.cell? ⟨gb122, 5, none⟩ = some (.int .i64 a0_5) := (blk_cell BK122.out 5).trans rfl; have hcz13_6 : w12.cell? ⟨gb122, 6, none⟩ = some (.string a0_6) := (blk_cell BK122.out 6).trans rfl; have hcz13_7 : w12.cell? ⟨gb122, 7, none⟩ = some (.bool a0_7) := (blk_cell BK122.out 7).trans rfl; have hcz13_8 : w12.cell? ⟨gb122, 8, none⟩ = some (.slice A0_8 l0_8.length c0_8) := (blk_cell BK122.out 8).trans rfl; have hcz13_9 : w12.cell? ⟨gb122, 9, none⟩ = some (.slice A0_9 l0_9.length c0_9) := (blk_cell BK122.out 9).trans rfl; have hfz13_0 := blk_frozen BK122.out 0; have hfz13_1 := blk_frozen BK122.out 1; have hfz13_2 := blk_frozen BK122.out 2; have hfz13_3 := blk_frozen BK122.out 3; have hfz13_4 := blk_frozen BK122.out 4; have hfz13_5 := blk_frozen BK122.out 5; have hfz13_6 := blk_frozen BK122.out 6; have hfz13_7 := blk_frozen BK122.out 7; have hfz13_8 := blk_frozen BK122.out 8; have hfz13_9 := blk_frozen BK122.out 9)); try go_wp2_with (first | ((with_reducible refine gate_dst (N := 1) rfl ?_); refine box_event ?hg (N := 1) ?hd (cs := #[.int .i64 a0_0, .int .i64 a0_1, .bool a0_2, .int .i64 a0_3, .int .i64 a0_4, .int .i64 a0_5, .string a0_6, .bool a0_7, .slice A0_8 l0_8.length c0_8, .slice A0_9 l0_9.length c0_9]) (t := 35) ?hr ?_; (case hd => rfl); (case hg => rfl); (case hr => first | (go_simp; done) | (go_simp; rfl)); intro gb122 hg w12 hbox hb; have n0_ := Aside0.mk (below_step (by repeat (first | (with_reducible first | exact HB.out | apply below_alloc | apply pw_below_drewN | apply below_drew1) | exact HB.out)) hb); have n1_ := Aside0.mk (hbox); have n2_ := Aside0.mk ((by rw [hg]; exact (below_size (by repeat (first | (with_reducible first | exact HB.out | apply below_alloc | apply pw_below_drewN | apply below_drew1) | exact HB.out))) : w.heap.size ≤ gb122)); have n3_ := Aside0.mk ((by rw [hg]; exact (below_size (by repeat (first | (with_reducible first | exact HB.out | apply below_alloc | apply pw_below_drewN | apply below_drew1) | exact HB.out))) : w.heap.size ≤ gb122)); clear HB; have HB := n0_; have BK122 := n1_; have GW122 := n2_; have GE122 := n3_; clear n0_ n1_ n2_ n3_; clear hb hbox hg; have hcz13_0 : w12.cell? ⟨gb122, 0, none⟩ = some (.int .i64 a0_0) := (blk_cell BK122.out 0).trans rfl; have hcz13_1 : w12.cell? ⟨gb122, 1, none⟩ = some (.int .i64 a0_1) := (blk_cell BK122.out 1).trans rfl; have hcz13_2 : w12.cell? ⟨gb122, 2, none⟩ = some (.bool a0_2) := (blk_cell BK122.out 2).trans rfl; have hcz13_3 : w12.cell? ⟨gb122, 3, none⟩ = some (.int .i64 a0_3) := (blk_cell BK122.out 3).trans rfl; have hcz13_4 : w12.cell? ⟨gb122, 4, none⟩ = some (.int .i64 a0_4) := (blk_cell BK122.out 4).trans rfl; have hcz13_5 : w12.cell? ⟨gb122, 5, none⟩ = some (.int .i64 a0_5) := (blk_cell BK122.out 5).trans rfl; have hcz13_6 : w12.cell? ⟨gb122, 6, none⟩ = some (.string a0_6) := (blk_cell BK122.out 6).trans rfl; have hcz13_7 : w12.cell? ⟨gb122, 7, none⟩ = some (.bool a0_7) := (blk_cell BK122.out 7).trans rfl; have hcz13_8 : w12.cell? ⟨gb122, 8, none⟩ = some (.slice A0_8 l0_8.length c0_8) := (blk_cell BK122.out 8).trans rfl; have hcz13_9 : w12.cell? ⟨gb122, 9, none⟩ = some (.slice A0_9 l0_9.length c0_9) := (blk_cell BK122.out 9).trans rfl; have hfz13_0 := blk_frozen BK122.out 0; have hfz13_1 := blk_frozen BK122.out 1; have hfz13_2 := blk_frozen BK122.out 2; have hfz13_3 := blk_frozen BK122.out 3; have hfz13_4 := blk_frozen BK122.out 4; have hfz13_5 := blk_frozen BK122.out 5; have hfz13_6 := blk_frozen BK122.out 6; have hfz13_7 := blk_frozen BK122.out 7; have hfz13_8 := blk_frozen BK122.out 8; have hfz13_9 := blk_frozen BK122.out 9)))
     go_ret2
     exact ⟨by first | rfl | (simp [errW_none, errW_some] <;> rfl) | (simp [*, errW_none, errW_some] <;> rfl), by repeat (first | (with_reducible first | exact HB.out | apply below_alloc | apply pw_below_drewN | apply below_drew1 | refine below_set ?_ GE122.out) | exact HB.out)⟩
    ·rw [if_neg c11] at H
     have c11b0 : (a0_0 == 8) = false := beq_eq_false_iff_ne.mpr c11
     have c11b1 : (a0_0 != 8) = true := bne_iff_ne.mpr c11
     by_cases c14 : a0_0 = 9
     ·rw [if_pos c14] at H
      have c14b0 : (a0_0 == 9) = true := beq_iff_eq.mpr c14
      have c14b1 : (a0_0 != 9) = false := bne_eq_false_iff_eq.mpr c14
      clear c14
      by_cases c15 : a0_3 < 2
      ·rw [if_pos c15] at H
       have c15b0 : decide (a0_3 < 2) = true := decide_eq_true c15
       clear c15
       simp only [Option.some.injEq, Prod.mk.injEq] at H
       obtain ⟨rfl, rfl⟩ := H
       go_enter Tryz.func48, Tryz.ntmps48
       go_wp2_with (first | ((with_reducible refine gate_dst (N := 1) rfl ?_); refine box_event ?hg (N := 1) ?hd (cs := #[.int .i64 a0_0, .int .i64 a0_1, .bool a0_2, .int .i64 a0_3, .int .i64 a0_4, .int .i64 a0_5, .string a0_6, .bool a0_7, .slice A0_8 l0_8.length c0_8, .slice A0_9 l0_9.length c0_9]) (t := 35) ?hr ?_; (case hd => rfl); (case hg => rfl); (case hr => first | (go_simp; done) | (go_simp; rfl)); intro gb122 hg w16 hbox hb; have n0_ := Aside0.mk (below_step (by repeat (first | (with_reducible first | exact HB.out | apply below_alloc | apply pw_below_drewN | apply below_drew1) | exact HB.out)) hb); have n1_ := Aside0.mk (hbox); have n2_ := Aside0.mk ((by rw [hg]; exact (below_size (by repeat (first | (with_reducible first | exact HB.out | apply below_alloc | apply pw_below_drewN | apply below_drew1) | exact HB.out))) : w.heap.size ≤ gb122)); have n3_ := Aside0.mk ((by rw [hg]; exact (below_size (by repeat (first | (with_reducible first | exact HB.out | apply below_alloc | apply pw_below_drewN | apply below_drew1) | exact HB.out))) : w.heap.size ≤ gb122)); clear HB; have HB := n0_; have BK122 := n1_; have GW122 := n2_; have GE122 := n3_; clear n0_ n1_ n2_ n3_; clear hb hbox hg; have hcz17_0 : w16.cell? ⟨gb122, 0, none⟩ = some (.int .i64 a0_0) := (blk_cell BK122.out 0).trans rfl; have hcz17_1 : w16.cell? ⟨gb122, 1, none⟩ = some (.int .i64 a0_1) := (blk_cell BK122.out 1).trans rfl; have hcz17_2 : w16.cell? ⟨gb122, 2, none⟩ = some (.bool a0_2) := (blk_cell BK122.out 2).trans rfl; have hcz17_3 : w16.cell? ⟨gb122, 3, none⟩ = some (.int .i64 a0_3) := (blk_cell BK122.out 3).trans rfl; have hcz17_4 : w16.cell? ⟨gb122, 4, none⟩ = some (.int .i64 a0_4) := (blk_cell BK122.out 4).trans rfl; have hcz17_5 : w16.cell? ⟨gb122, 5, none⟩ = some (.int .i64 a0_5) := (blk_cell BK122.out 5).trans rfl; have hcz17_6 : w16.cell? ⟨gb122, 6, none⟩ = some (.string a0_6) := (blk_cell BK122.out 6).trans rfl; have hcz17_7 : w16.cell? ⟨gb122, 7, none⟩ = some (.bool a0_7) := (blk_cell BK122.out 7).trans rfl; have hcz17_8 : w16.cell? ⟨gb122, 8, none⟩ = some (.slice A0_8 l0_8.length c0_8) := (blk_cell BK122.out 8).trans rfl; have hcz17_9 : w16.cell? ⟨gb122, 9, none⟩ = some (.slice A0_9 l0_9.length c0_9) := (blk_cell BK122.out 9).trans rfl; have hfz17_0 := blk_frozen BK122.out 0; have hfz17_1 := blk_frozen BK122.out 1; have hfz17_2 := blk_frozen BK122.out 2; have hfz17_3 := blk_frozen BK122.out 3; have hfz17_4 := blk_frozen BK122.out 4; have hfz17_5 := blk_frozen BK122.out 5; have hfz17_6 := blk_frozen BK122.out 6; have hfz17_7 := blk_frozen BK122.out 7; have hfz17_8 := blk_frozen BK122.out 8; have hfz17_9 := blk_frozen BK122.out 9))
       repeat (go_quiet (first | ((with_reducible refine gate_dst (N := 1) rfl ?_); refine box_event ?hg (N := 1) ?hd (cs := #[.int .i64 a0_0, .int .i64 a0_1, .bool a0_2, .int .i64 a0_3, .int .i64 a0_4, .int .i64 a0_5, .string a0_6, .bool a0_7, .slice A0_8 l0_8.length c0_8, .slice A0_9 l0_9.length c0_9]) (t := 35) ?hr ?_; (case hd => rfl); (case hg => rfl); (case hr => first | (go_simp; done) | (go_simp; rfl)); intro gb122 hg w16 hbox hb; have n0_ := Aside0.mk (below_step (by repeat (first | (with_reducible first | exact HB.out | apply below_alloc | apply pw_below_drewN | apply below_drew1) | exact HB.out)) hb); have n1_ := Aside0.mk (hbox); have n2_ := Aside0.mk ((by rw [hg]; exact (below_size (by repeat (first | (with_reducible first | exact HB.out | apply below_alloc | apply pw_below_drewN | apply below_drew1) | exact HB.out))) : w.heap.size ≤ gb122)); have n3_ := Aside0.mk ((by rw [hg]; exact (below_size (by repeat (first | (with_reducible first | exact HB.out | apply below_alloc | apply pw_below_drewN | apply below_drew1) | exact HB.out))) : w.heap.size ≤ gb122)); clear HB; have HB := n0_; have BK122 := n1_; have GW122 := n2_; have GE122 := n3_; clear n0_ n1_ n2_ n3_; clear hb hbox hg; have hcz17_0 : w16.cell? ⟨gb122, 0, none⟩ = some (.int .i64 a0_0) := (blk_cell BK122.out 0).trans rfl; have hcz17_1 : w16.cell? ⟨gb122, 1, none⟩ = some (.int .i64 a0_1) := (blk_cell BK122.out 1).trans rfl; have hcz17_2 : w16.cell? ⟨gb122, 2, none⟩ = some (.bool a0_2) := (blk_cell BK122.out 2).trans rfl; have hcz17_3 : w16.cell? ⟨gb122, 3, none⟩ = some (.int .i64 a0_3) := (blk_cell BK122.out 3).trans rfl; have hcz17_4 : w16.cell? ⟨gb122, 4, none⟩ = some (.int .i64 a0_4) := (blk_cell BK122.out 4).trans rfl; have hcz17_5 : w16.cell? ⟨gb122, 5, none⟩ = some (.int .i64 a0_5) := (blk_cell BK122.out 5).trans rfl; have hcz17_6 : w16.cell? ⟨gb122, 6, none⟩ = some (.string a0_6) := (blk_cell BK122.out 6).trans rfl; have hcz17_7 : w16.cell? ⟨gb122, 7, none⟩ = some (.bool a0_7) := (blk_cell BK122.out 7).trans rfl; have hcz17_8 : w16.cell? ⟨gb122, 8, none⟩ = some (.slice A0_8 l0_8.length c0_8) := (blk_cell BK122.out 8).trans rfl; have hcz17_9 : w16.cell? ⟨gb122, 9, none⟩ = some (.slice A0_9 l0_9.length c0_9) := (blk_cell BK122.out 9).trans rfl; have hfz17_0 := blk_frozen BK122.out 0; have hfz17_1 := blk_frozen BK122.out 1; have hfz17_2 := blk_frozen BK122.out 2; have hfz17_3 := blk_frozen BK122.out 3; have hfz17_4 := blk_frozen BK122.out 4; have hfz17_5 := blk_frozen BK122.out 5; have hfz17_6 := blk_frozen BK122.out 6; have hfz17_7 := blk_frozen BK122.out 7; have hfz17_8 := blk_frozen BK122.out 8; have hfz17_9 := blk_frozen BK122.out 9)); try go_wp2_with (first | ((with_reducible refine gate_dst (N := 1) rfl ?_); refine box_event ?hg (N := 1) ?hd (cs := #[.int .i64 a0_0, .int .i64 a0_1, .bool a0_2, .int .i64 a0_3, .int .i64 a0_4, .int .i64 a0_5, .string a0_6, .bool a0_7, .slice A0_8 l0_8.length c0_8, .slice A0_9 l0_9.length c0_9]) (t := 35) ?hr ?_; (case hd => rfl); (case hg => rfl); (case hr => first | (go_simp; done) | (go_simp; rfl)); intro gb122 hg w16 hbox hb; have n0_ := Aside0.mk (below_step (by repeat (first | (with_reducible first | exact HB.out | apply below_alloc | apply pw_below_drewN | apply below_drew1) | exact HB.out)) hb); have n1_ := Aside0.mk (hbox); have n2_ := Aside0.mk ((by rw [hg]; exact (below_size (by repeat (first | (with_reducible first | exact HB.out | apply below_alloc | apply pw_below_drewN | apply below_drew1) | exact HB.out))) : w.heap.size ≤ gb122)); have n3_ := Aside0.mk ((by rw [hg]; exact (below_size (by repeat (first | (with_reducible first | exact HB.out | apply below_alloc | apply pw_below_drewN | apply below_drew1) | exact HB.out))) : w.heap.size ≤ gb122)); clear HB; have HB := n0_; have BK122 := n1_; have GW122 := n2_; have GE122 := n3_; clear n0_ n1_ n2_ n3_; clear hb hbox hg; have hcz17_0 : w16.cell? ⟨gb122, 0, none⟩ = some (.int .i64 a0_0) := (blk_cell BK122.out 0).trans rfl; have hcz17_1 : w16.cell? ⟨gb122, 1, none⟩ = some (.int .i64 a0_1) := (blk_cell BK122.out 1).trans rfl; have hcz17_2 : w16.cell? ⟨gb122, 2, none⟩ = some (.bool a0_2) := (blk_cell BK122.out 2).trans rfl; have hcz17_3 : w16.cell? ⟨gb122, 3, none⟩ = some (.int .i64 a0_3) := (blk_cell BK122.out 3).trans rfl; have hcz17_4 : w16.cell? ⟨gb122, 4, none⟩ = some (.int .i64 a0_4) := (blk_cell BK122.out 4).trans rfl; have hcz17_5 : w16.cell? ⟨gb122, 5, none⟩ = some (.int .i64 a0_5) := (blk_cell BK122.out 5).trans rfl; have hcz17_6 : w16.cell? ⟨gb122, 6, none⟩ = some (.string a0_6) := (blk_cell BK122.out 6).trans rfl; have hcz17_7 : w16.cell? ⟨gb122, 7, none⟩ = some (.bool a0_7) := (blk_cell BK122.out 7).trans rfl; have hcz17_8 : w16.cell? ⟨gb122, 8, none⟩ = some (.slice A0_8 l0_8.length c0_8) := (blk_cell BK122.out 8).trans rfl; have hcz17_9 : w16.cell? ⟨gb122, 9, none⟩ = some (.slice A0_9 l0_9.length c0_9) := (blk_cell BK122.out 9).trans rfl; have hfz17_0 := blk_frozen BK122.out 0; have hfz17_1 := blk_frozen BK122.out 1; have hfz17_2 := blk_frozen BK122.out 2; have hfz17_3 := blk_frozen BK122.out 3; have hfz17_4 := blk_frozen BK122.out 4; have hfz17_5 := blk_frozen BK122.out 5; have hfz17_6 := blk_frozen BK122.out 6; have hfz17_7 := blk_frozen BK122.out 7; have hfz17_8 := blk_frozen BK122.out 8; have hfz17_9 := blk_frozen BK122.out 9)))
       go_ret2
       exact ⟨by first | rfl | (simp [errW_none, errW_some] <;> rfl) | (simp [*, errW_none, errW_some] <;> rfl), by repeat (first | (with_reducible first | exact HB.out | apply below_alloc | apply pw_below_drewN | apply below_drew1 | refine below_set ?_ GE122.out) | exact HB.out)⟩
      ·rw [if_neg c15] at H
       have c15b0 : decide (a0_3 < 2) = false := decide_eq_false c15
       clear c15
       simp only [Option.some.injEq, Prod.mk.injEq] at H
       obtain ⟨rfl, rfl⟩ := H
       go_enter Tryz.func48, Tryz.ntmps48
       go_wp2_with (first | ((with_reducible refine gate_dst (N := 1) rfl ?_); refine box_event ?hg (N := 1) ?hd (cs := #[.int .i64 a0_0, .int .i64 a0_1, .bool a0_2, .int .i64 a0_3, .int .i64 a0_4, .int .i64 a0_5, .string a0_6, .bool a0_7, .slice A0_8 l0_8.length c0_8, .slice A0_9 l0_9.length c0_9]) (t := 35) ?hr ?_; (case hd => rfl); (case hg => rfl); (case hr => first | (go_simp; done) | (go_simp; rfl)); intro gb122 hg w18 hbox hb; have n0_ := Aside0.mk (below_step (by repeat (first | (with_reducible first | exact HB.out | apply below_alloc | apply pw_below_drewN | apply below_drew1) | exact HB.out)) hb); have n1_ := Aside0.mk (hbox); have n2_ := Aside0.mk ((by rw [hg]; exact (below_size (by repeat (first | (with_reducible first | exact HB.out | apply below_alloc | apply pw_below_drewN | apply below_drew1) | exact HB.out))) : w.heap.size ≤ gb122)); have n3_ := Aside0.mk ((by rw [hg]; exact (below_size (by repeat (first | (with_reducible first | exact HB.out | apply below_alloc | apply pw_below_drewN | apply below_drew1) | exact HB.out))) : w.heap.size ≤ gb122)); clear HB; have HB := n0_; have BK122 := n1_; have GW122 := n2_; have GE122 := n3_; clear n0_ n1_ n2_ n3_; clear hb hbox hg; have hcz19_0 : w18.cell? ⟨gb122, 0, none⟩ = some (.int .i64 a0_0) := (blk_cell BK122.out 0).trans rfl; have hcz19_1 : w18.cell? ⟨gb122, 1, none⟩ = some (.int .i64 a0_1) := (blk_cell BK122.out 1).trans rfl; have hcz19_2 : w18.cell? ⟨gb122, 2, none⟩ = some (.bool a0_2) := (blk_cell BK122.out 2).trans rfl; have hcz19_3 : w18.cell? ⟨gb122, 3, none⟩ = some (.int .i64 a0_3) := (blk_cell BK122.out 3).trans rfl; have hcz19_4 : w18.cell? ⟨gb122, 4, none⟩ = some (.int .i64 a0_4) := (blk_cell BK122.out 4).trans rfl; have hcz19_5 : w18.cell? ⟨gb122, 5, none⟩ = some (.int .i64 a0_5) := (blk_cell BK122.out 5).trans rfl; have hcz19_6 : w18.cell? ⟨gb122, 6, none⟩ = some (.string a0_6) := (blk_cell BK122.out 6).trans rfl; have hcz19_7 : w18.cell? ⟨gb122, 7, none⟩ = some (.bool a0_7) := (blk_cell BK122.out 7).trans rfl; have hcz19_8 : w18.cell? ⟨gb122, 8, none⟩ = some (.slice A0_8 l0_8.length c0_8) := (blk_cell BK122.out 8).trans rfl; have hcz19_9 : w18.cell? ⟨gb122, 9, none⟩ = some (.slice A0_9 l0_9.length c0_9) := (blk_cell BK122.out 9).trans rfl; have hfz19_0 := blk_frozen BK122.out 0; have hfz19_1 := blk_frozen BK122.out 1; have hfz19_2 := blk_frozen BK122.out 2; have hfz19_3 := blk_frozen BK122.out 3; have hfz19_4 := blk_frozen BK122.out 4; have hfz19_5 := blk_frozen BK122.out 5; have hfz19_6 := blk_frozen BK122.out 6; have hfz19_7 := blk_frozen BK122.out 7; have hfz19_8 := blk_frozen BK122.out 8; have hfz19_9 := blk_frozen BK122.out 9))
       repeat (go_quiet (first | ((with_reducible refine gate_dst (N := 1) rfl ?_); refine box_event ?hg (N := 1) ?hd (cs := #[.int .i64 a0_0, .int .i64 a0_1, .bool a0_2, .int .i64 a0_3, .int .i64 a0_4, .int .i64 a0_5, .string a0_6, .bool a0_7, .slice A0_8 l0_8.length c0_8, .slice A0_9 l0_9.length c0_9]) (t := 35) ?hr ?_; (case hd => rfl); (case hg => rfl); (case hr => first | (go_simp; done) | (go_simp; rfl)); intro gb122 hg w18 hbox hb; have n0_ := Aside0.mk (below_step (by repeat (first | (with_reducible first | exact HB.out | apply below_alloc | apply pw_below_drewN | apply below_drew1) | exact HB.out)) hb); have n1_ := Aside0.mk (hbox); have n2_ := Aside0.mk ((by rw [hg]; exact (below_size (by repeat (first | (with_reducible first | exact HB.out | apply below_alloc | apply pw_below_drewN | apply below_drew1) | exact HB.out))) : w.heap.size ≤ gb122)); have n3_ := Aside0.mk ((by rw [hg]; exact (below_size (by repeat (first | (with_reducible first | exact HB.out | apply below_alloc | apply pw_below_drewN | apply below_drew1) | exact HB.out))) : w.heap.size ≤ gb122)); clear HB; have HB := n0_; have BK122 := n1_; have GW122 := n2_; have GE122 := n3_; clear n0_ n1_ n2_ n3_; clear hb hbox hg; have hcz19_0 : w18.cell? ⟨gb122, 0, none⟩ = some (.int .i64 a0_0) := (blk_cell BK122.out 0).trans rfl; have hcz19_1 : w18.cell? ⟨gb122, 1, none⟩ = some (.int .i64 a0_1) := (blk_cell BK122.out 1).trans rfl; have hcz19_2 : w18.cell? ⟨gb122, 2, none⟩ = some (.bool a0_2) := (blk_cell BK122.out 2).trans rfl; have hcz19_3 : w18.cell? ⟨gb122, 3, none⟩ = some (.int .i64 a0_3) := (blk_cell BK122.out 3).trans rfl; have hcz19_4 : w18.cell? ⟨gb122, 4, none⟩ = some (.int .i64 a0_4) := (blk_cell BK122.out 4).trans rfl; have hcz19_5 : w18.cell? ⟨gb122, 5, none⟩ = some (.int .i64 a0_5) := (blk_cell BK122.out 5).trans rfl; have hcz19_6 : w18.cell? ⟨gb122, 6, none⟩ = some (.string a0_6) := (blk_cell BK122.out 6).trans rfl; have hcz19_7 : w18.cell? ⟨gb122, 7, none⟩ = some (.bool a0_7) := (blk_cell BK122.out 7).trans rfl; have hcz19_8 : w18.cell? ⟨gb122, 8, none⟩ = some (.slice A0_8 l0_8.length c0_8) := (blk_cell BK122.out 8).trans rfl; have hcz19_9 : w18.cell? ⟨gb122, 9, none⟩ = some (.slice A0_9 l0_9.length c0_9) := (blk_cell BK122.out 9).trans rfl; have hfz19_0 := blk_frozen BK122.out 0; have hfz19_1 := blk_frozen BK122.out 1; have hfz19_2 := blk_frozen BK122.out 2; have hfz19_3 := blk_frozen BK122.out 3; have hfz19_4 := blk_frozen BK122.out 4; have hfz19_5 := blk_frozen BK122.out 5; have hfz19_6 := blk_frozen BK122.out 6; have hfz19_7 := blk_frozen BK122.out 7; have hfz19_8 := blk_frozen BK122.out 8; have hfz19_9 := blk_frozen BK122.out 9)); try go_wp2_with (first | ((with_reducible refine gate_dst (N := 1) rfl ?_); refine box_event ?hg (N := 1) ?hd (cs := #[.int .i64 a0_0, .int .i64 a0_1, .bool a0_2, .int .i64 a0_3, .int .i64 a0_4, .int .i64 a0_5, .string a0_6, .bool a0_7, .slice A0_8 l0_8.length c0_8, .slice A0_9 l0_9.length c0_9]) (t := 35) ?hr ?_; (case hd => rfl); (case hg => rfl); (case hr => first | (go_simp; done) | (go_simp; rfl)); intro gb122 hg w18 hbox hb; have n0_ := Aside0.mk (below_step (by repeat (first | (with_reducible first | exact HB.out | apply below_alloc | apply pw_below_drewN | apply below_drew1) | exact HB.out)) hb); have n1_ := Aside0.mk (hbox); have n2_ := Aside0.mk ((by rw [hg]; exact (below_size (by repeat (first | (with_reducible first | exact HB.out | apply below_alloc | apply pw_below_drewN | apply below_drew1) | exact HB.out))) : w.heap.size ≤ gb122)); have n3_ := Aside0.mk ((by rw [hg]; exact (below_size (by repeat (first | (with_reducible first | exact HB.out | apply below_alloc | apply pw_below_drewN | apply below_drew1) | exact HB.out))) : w.heap.size ≤ gb122)); clear HB; have HB := n0_; have BK122 := n1_; have GW122 := n2_; have GE122 := n3_; clear n0_ n1_ n2_ n3_; clear hb hbox hg; have hcz19_0 : w18.cell? ⟨gb122, 0, none⟩ = some (.int .i64 a0_0) := (blk_cell BK122.out 0).trans rfl; have hcz19_1 : w18.cell? ⟨gb122, 1, none⟩ = some (.int .i64 a0_1) := (blk_cell BK122.out 1).trans rfl; have hcz19_2 : w18.cell? ⟨gb122, 2, none⟩ = some (.bool a0_2) := (blk_cell BK122.out 2).trans rfl; have hcz19_3 : w18.cell? ⟨gb122, 3, none⟩ = some (.int .i64 a0_3) := (blk_cell BK122.out 3).trans rfl; have hcz19_4 : w18.cell? ⟨gb122, 4, none⟩ = some (.int .i64 a0_4) := (blk_cell BK122.out 4).trans rfl; have hcz19_5 : w18.cell? ⟨gb122, 5, none⟩ = some (.int .i64 a0_5) := (blk_cell BK122.out 5).trans rfl; have hcz19_6 : w18.cell? ⟨gb122, 6, none⟩ = some (.string a0_6) := (blk_cell BK122.out 6).trans rfl; have hcz19_7 : w18.cell? ⟨gb122, 7, none⟩ = some (.bool a0_7) := (blk_cell BK122.out 7).trans rfl; have hcz19_8 : w18.cell? ⟨gb122, 8, none⟩ = some (.slice A0_8 l0_8.length c0_8) := (blk_cell BK122.out 8).trans rfl; have hcz19_9 : w18.cell? ⟨gb122, 9, none⟩ = some (.slice A0_9 l0_9.length c0_9) := (blk_cell BK122.out 9).trans rfl; have hfz19_0 := blk_frozen BK122.out 0; have hfz19_1 := blk_frozen BK122.out 1; have hfz19_2 := blk_frozen BK122.out 2; have hfz19_3 := blk_frozen BK122.out 3; have hfz19_4 := blk_frozen BK122.out 4; have hfz19_5 := blk_frozen BK122.out 5; have hfz19_6 := blk_frozen BK122.out 6; have hfz19_7 := blk_frozen BK122.out 7; have hfz19_8 := blk_frozen BK122.out 8; have hfz19_9 := blk_frozen BK122.out 9)))
       go_ret2
       exact ⟨by first | rfl | (simp [errW_none, errW_some] <;> rfl) | (simp [*, errW_none, errW_some] <;> rfl), by repeat (first | (with_reducible first | exact HB.out | apply below_alloc | apply pw_below_drewN | apply below_drew1 | refine below_set ?_ GE122.out) | exact HB.out)⟩
     ·rw [if_neg c14] at H
      have c14b0 : (a0_0 == 9) = false := beq_eq_false_iff_ne.mpr c14
      have c14b1 : (a0_0 != 9) = true := bne_iff_ne.mpr c14
      have HC20 := Aside0.mk H
      clear H
      go_enter Tryz.func48, Tryz.ntmps48
      go_upto_if 29 with (first | ((with_reducible refine gate_dst (N := 1) rfl ?_); refine box_event ?hg (N := 1) ?hd (cs := #[.int .i64 a0_0, .int .i64 a0_1, .bool a0_2, .int .i64 a0_3, .int .i64 a0_4, .int .i64 a0_5, .string a0_6, .bool a0_7, .slice A0_8 l0_8.length c0_8, .slice A0_9 l0_9.length c0_9]) (t := 35) ?hr ?_; (case hd => rfl); (case hg => rfl); (case hr => first | (go_simp; done) | (go_simp; rfl)); intro gb122 hg w21 hbox hb; have n0_ := Aside0.mk (below_step (by repeat (first | (with_reducible first | exact HB.out | apply below_alloc | apply pw_below_drewN | apply below_drew1) | exact HB.out)) hb); have n1_ := Aside0.mk (hbox); have n2_ := Aside0.mk ((by rw [hg]; exact (below_size (by repeat (first | (with_reducible first | exact HB.out | apply below_alloc | apply pw_below_drewN | apply below_drew1) | exact HB.out))) : w.heap.size ≤ gb122)); have n3_ := Aside0.mk ((by rw [hg]; exact (below_size (by repeat (first | (with_reducible first | exact HB.out | apply below_alloc | apply pw_below_drewN | apply below_drew1) | exact HB.out))) : w.heap.size ≤ gb122)); clear HB; have HB := n0_; have BK122 := n1_; have GW122 := n2_; have GE122 := n3_; clear n0_ n1_ n2_ n3_; clear hb hbox hg; have hcz22_0 : w21.cell? ⟨gb122, 0, none⟩ = some (.int .i64 a0_0) := (blk_cell BK122.out 0).trans rfl; have hcz22_1 : w21.cell? ⟨gb122, 1, none⟩ = some (.int .i64 a0_1) := (blk_cell BK122.out 1).trans rfl; have hcz22_2 : w21.cell? ⟨gb122, 2, none⟩ = some (.bool a0_2) := (blk_cell BK122.out 2).trans rfl; have hcz22_3 : w21.cell? ⟨gb122, 3, none⟩ = some (.int .i64 a0_3) := (blk_cell BK122.out 3).trans rfl; have hcz22_4 : w21.cell? ⟨gb122, 4, none⟩ = some (.int .i64 a0_4) := (blk_cell BK122.out 4).trans rfl; have hcz22_5 : w21.cell? ⟨gb122, 5, none⟩ = some (.int .i64 a0_5) := (blk_cell BK122.out 5).trans rfl; have hcz22_6 : w21.cell? ⟨gb122, 6, none⟩ = some (.string a0_6) := (blk_cell BK122.out 6).trans rfl; have hcz22_7 : w21.cell? ⟨gb122, 7, none⟩ = some (.bool a0_7) := (blk_cell BK122.out 7).trans rfl; have hcz22_8 : w21.cell? ⟨gb122, 8, none⟩ = some (.slice A0_8 l0_8.length c0_8) := (blk_cell BK122.out 8).trans rfl; have hcz22_9 : w21.cell? ⟨gb122, 9, none⟩ = some (.slice A0_9 l0_9.length c0_9) := (blk_cell BK122.out 9).trans rfl; have hfz22_0 := blk_frozen BK122.out 0; have hfz22_1 := blk_frozen BK122.out 1; have hfz22_2 := blk_frozen BK122.out 2; have hfz22_3 := blk_frozen BK122.out 3; have hfz22_4 := blk_frozen BK122.out 4; have hfz22_5 := blk_frozen BK122.out 5; have hfz22_6 := blk_frozen BK122.out 6; have hfz22_7 := blk_frozen BK122.out 7; have hfz22_8 := blk_frozen BK122.out 8; have hfz22_9 := blk_frozen BK122.out 9))
      repeat (go_quiet (first | ((with_reducible refine gate_dst (N := 1) rfl ?_); refine box_event ?hg (N := 1) ?hd (cs := #[.int .i64 a0_0, .int .i64 a0_1, .bool a0_2, .int .i64 a0_3, .int .i64 a0_4, .int .i64 a0_5, .string a0_6, .bool a0_7, .slice A0_8 l0_8.length c0_8, .slice A0_9 l0_9.length c0_9]) (t := 35) ?hr ?_; (case hd => rfl); (case hg => rfl); (case hr => first | (go_simp; done) | (go_simp; rfl)); intro gb122 hg w21 hbox hb; have n0_ := Aside0.mk (below_step (by repeat (first | (with_reducible first | exact HB.out | apply below_alloc | apply pw_below_drewN | apply below_drew1) | exact HB.out)) hb); have n1_ := Aside0.mk (hbox); have n2_ := Aside0.mk ((by rw [hg]; exact (below_size (by repeat (first | (with_reducible first | exact HB.out | apply below_alloc | apply pw_below_drewN | apply below_drew1) | exact HB.out))) : w.heap.size ≤ gb122)); have n3_ := Aside0.mk ((by rw [hg]; exact (below_size (by repeat (first | (with_reducible first | exact HB.out | apply below_alloc | apply pw_below_drewN | apply below_drew1) | exact HB.out))) : w.heap.size ≤ gb122)); clear HB; have HB := n0_; have BK122 := n1_; have GW122 := n2_; have GE122 := n3_; clear n0_ n1_ n2_ n3_; clear hb hbox hg; have hcz22_0 : w21.cell? ⟨gb122, 0, none⟩ = some (.int .i64 a0_0) := (blk_cell BK122.out 0).trans rfl; have hcz22_1 : w21.cell? ⟨gb122, 1, none⟩ = some (.int .i64 a0_1) := (blk_cell BK122.out 1).trans rfl; have hcz22_2 : w21.cell? ⟨gb122, 2, none⟩ = some (.bool a0_2) := (blk_cell BK122.out 2).trans rfl; have hcz22_3 : w21.cell? ⟨gb122, 3, none⟩ = some (.int .i64 a0_3) := (blk_cell BK122.out 3).trans rfl; have hcz22_4 : w21.cell? ⟨gb122, 4, none⟩ = some (.int .i64 a0_4) := (blk_cell BK122.out 4).trans rfl; have hcz22_5 : w21.cell? ⟨gb122, 5, none⟩ = some (.int .i64 a0_5) := (blk_cell BK122.out 5).trans rfl; have hcz22_6 : w21.cell? ⟨gb122, 6, none⟩ = some (.string a0_6) := (blk_cell BK122.out 6).trans rfl; have hcz22_7 : w21.cell? ⟨gb122, 7, none⟩ = some (.bool a0_7) := (blk_cell BK122.out 7).trans rfl; have hcz22_8 : w21.cell? ⟨gb122, 8, none⟩ = some (.slice A0_8 l0_8.length c0_8) := (blk_cell BK122.out 8).trans rfl; have hcz22_9 : w21.cell? ⟨gb122, 9, none⟩ = some (.slice A0_9 l0_9.length c0_9) := (blk_cell BK122.out 9).trans rfl; have hfz22_0 := blk_frozen BK122.out 0; have hfz22_1 := blk_frozen BK122.out 1; have hfz22_2 := blk_frozen BK122.out 2; have hfz22_3 := blk_frozen BK122.out 3; have hfz22_4 := blk_frozen BK122.out 4; have hfz22_5 := blk_frozen BK122.out 5; have hfz22_6 := blk_frozen BK122.out 6; have hfz22_7 := blk_frozen BK122.out 7; have hfz22_8 := blk_frozen BK122.out 8; have hfz22_9 := blk_frozen BK122.out 9)); go_upto_if 29 with (first | ((with_reducible refine gate_dst (N := 1) rfl ?_); refine box_event ?hg (N := 1) ?hd (cs := #[.int .i64 a0_0, .int .i64 a0_1, .bool a0_2, .int .i64 a0_3, .int .i64 a0_4, .int .i64 a0_5, .string a0_6, .bool a0_7, .slice A0_8 l0_8.length c0_8, .slice A0_9 l0_9.length c0_9]) (t := 35) ?hr ?_; (case hd => rfl); (case hg => rfl); (case hr => first | (go_simp; done) | (go_simp; rfl)); intro gb122 hg w21 hbox hb; have n0_ := Aside0.mk (below_step (by repeat (first | (with_reducible first | exact HB.out | apply below_alloc | apply pw_below_drewN | apply below_drew1) | exact HB.out)) hb); have n1_ := Aside0.mk (hbox); have n2_ := Aside0.mk ((by rw [hg]; exact (below_size (by repeat (first | (with_reducible first | exact HB.out | apply below_alloc | apply pw_below_drewN | apply below_drew1) | exact HB.out))) : w.heap.size ≤ gb122)); have n3_ := Aside0.mk ((by rw [hg]; exact (below_size (by repeat (first | (with_reducible first | exact HB.out | apply below_alloc | apply pw_below_drewN | apply below_drew1) | exact HB.out))) : w.heap.size ≤ gb122)); clear HB; have HB := n0_; have BK122 := n1_; have GW122 := n2_; have GE122 := n3_; clear n0_ n1_ n2_ n3_; clear hb hbox hg; have hcz22_0 : w21.cell? ⟨gb122, 0, none⟩ = some (.int .i64 a0_0) := (blk_cell BK122.out 0).trans rfl; have hcz22_1 : w21.cell? ⟨gb122, 1, none⟩ = some (.int .i64 a0_1) := (blk_cell BK122.out 1).trans rfl; have hcz22_2 : w21.cell? ⟨gb122, 2, none⟩ = some (.bool a0_2) := (blk_cell BK122.out 2).trans rfl; have hcz22_3 : w21.cell? ⟨gb122, 3, none⟩ = some (.int .i64 a0_3) := (blk_cell BK122.out 3).trans rfl; have hcz22_4 : w21.cell? ⟨gb122, 4, none⟩ = some (.int .i64 a0_4) := (blk_cell BK122.out 4).trans rfl; have hcz22_5 : w21.cell? ⟨gb122, 5, none⟩ = some (.int .i64 a0_5) := (blk_cell BK122.out 5).trans rfl; have hcz22_6 : w21.cell? ⟨gb122, 6, none⟩ = some (.string a0_6) := (blk_cell BK122.out 6).trans rfl; have hcz22_7 : w21.cell? ⟨gb122, 7, none⟩ = some (.bool a0_7) := (blk_cell BK122.out 7).trans rfl; have hcz22_8 : w21.cell? ⟨gb122, 8, none⟩ = some (.slice A0_8 l0_8.length c0_8) := (blk_cell BK122.out 8).trans rfl; have hcz22_9 : w21.cell? ⟨gb122, 9, none⟩ = some (.slice A0_9 l0_9.length c0_9) := (blk_cell BK122.out 9).trans rfl; have hfz22_0 := blk_frozen BK122.out 0; have hfz22_1 := blk_frozen BK122.out 1; have hfz22_2 := blk_frozen BK122.out 2; have hfz22_3 := blk_frozen BK122.out 3; have hfz22_4 := blk_frozen BK122.out 4; have hfz22_5 := blk_frozen BK122.out 5; have hfz22_6 := blk_frozen BK122.out 6; have hfz22_7 := blk_frozen BK122.out 7; have hfz22_8 := blk_frozen BK122.out 8; have hfz22_9 := blk_frozen BK122.out 9)))
      (try simp only [Act.put, List.setIfInBounds_toArray, List.set_cons_zero, List.set_cons_succ])
      go_cut [29] (fun v29 wc => ∃ (kq : Nat) (x29_19 : Bool), v29 = .bool x29_19 ∧ Aside0 (spec_OneBits.j0 kq a0_0 x29_19 a0_0 a0_1 a0_2 a0_3 a0_4 a0_5 a0_6 a0_7 l0_8 l0_9 = some (r1, r2)) ∧ Aside0 (kq ≤ k) ∧ Aside0 (wc.heap[gb122]? = some (.cells #[.int .i64 a0_0, .int .i64 a0_1, .bool a0_2, .int .i64 a0_3, .int .i64 a0_4, .int .i64 a0_5, .string a0_6, .bool a0_7, (.slice A0_8 l0_8.length c0_8), (.slice A0_9 l0_9.length c0_9)] 35 (0, 0))) ∧ Aside0 (Below w.heap.size w wc))
      case first =>
       have H := HC20.out
       clear HC20
       by_cases c23 : a0_0 = 10
       ·rw [if_pos c23] at H
        have c23b0 : (a0_0 == 10) = true := beq_iff_eq.mpr c23
        have c23b1 : (a0_0 != 10) = false := bne_eq_false_iff_eq.mpr c23
        clear c23
        (first | rw [c23b0] | (simp only [i64_w, i32_w]; rw [c23b0]) | skip)
        have H' := Aside0.mk H
        clear H
        go_wp2
        repeat (go_quiet (fail); try go_wp2)
        go_meet
        case rel => exact ⟨_, ((a0_0 == 10)), (by first | rfl | (simp; done) | (simp [*]; done)), H', ⟨by first | omega | exact Nat.le_refl _⟩, ⟨by (with_reducible repeat (first | refine blk_drewN ?_ _ | refine blk_drew ?_ | refine blk_alloc ?_ _)); exact BK122.out⟩, ⟨by repeat (first | (with_reducible first | exact HB.out | apply below_alloc | apply pw_below_drewN | apply below_drew1 | refine below_set ?_ GE122.out) | exact HB.out)⟩⟩
       ·rw [if_neg c23] at H
        have c23b0 : (a0_0 == 10) = false := beq_eq_false_iff_ne.mpr c23
        have c23b1 : (a0_0 != 10) = true := bne_iff_ne.mpr c23
        (first | rw [c23b0] | (simp only [i64_w, i32_w]; rw [c23b0]) | skip)
        have H' := Aside0.mk H
        clear H
        go_wp2
        repeat (go_quiet (fail); try go_wp2)
        go_meet
        case rel => exact ⟨_, ((a0_0 == 18)), (by first | rfl | (simp; done) | (simp [*]; done)), H', ⟨by first | omega | exact Nat.le_refl _⟩, ⟨by (with_reducible repeat (first | refine blk_drewN ?_ _ | refine blk_drew ?_ | refine blk_alloc ?_ _)); exact BK122.out⟩, ⟨by repeat (first | (with_reducible first | exact HB.out | apply below_alloc | apply pw_below_drewN | apply below_drew1 | refine below_set ?_ GE122.out) | exact HB.out)⟩⟩
      case rest =>
       clear HC20
       try clear c1
       try clear c2
       try clear c2b0
       try clear c2b1
       try clear p2
       try clear c4
       try clear c5
       try clear c5b0
       try clear c5b1
       try clear p6
       try clear c8
       try clear c8b0
       try clear c8b1
       try clear c11
       try clear c11b0
       try clear c11b1
       try clear c14
       try clear c14b0
       try clear c14b1
       try clear c15
       try clear c15b0
       try clear c23
       try clear c23b0
       try clear c23b1
       try clear hcz10_0
       try clear hcz10_1
       try clear hcz10_2
       try clear hcz10_3
       try clear hcz10_4
       try clear hcz10_5
       try clear hcz10_6
       try clear hcz10_7
       try clear hcz10_8
       try clear hcz10_9
       try clear hcz13_0
       try clear hcz13_1
       try clear hcz13_2
       try clear hcz13_3
       try clear hcz13_4
       try clear hcz13_5
       try clear hcz13_6
       try clear hcz13_7
       try clear hcz13_8
       try clear hcz13_9
       try clear hcz17_0
       try clear hcz17_1
       try clear hcz17_2
       try clear hcz17_3
       try clear hcz17_4
       try clear hcz17_5
       try clear hcz17_6
       try clear hcz17_7
       try clear hcz17_8
       try clear hcz17_9
       try clear hcz19_0
       try clear hcz19_1
       try clear hcz19_2
       try clear hcz19_3
       try clear hcz19_4
       try clear hcz19_5
       try clear hcz19_6
       try clear hcz19_7
       try clear hcz19_8
       try clear hcz19_9
       try clear hcz22_0
       try clear hcz22_1
       try clear hcz22_2
       try clear hcz22_3
       try clear hcz22_4
       try clear hcz22_5
       try clear hcz22_6
       try clear hcz22_7
       try clear hcz22_8
       try clear hcz22_9
       try clear hcz4_0
       try clear hcz4_1
       try clear hcz4_2
       try clear hcz4_3
       try clear hcz4_4
       try clear hcz4_5
       try clear hcz4_6
       try clear hcz4_7
       try clear hcz4_8
       try clear hcz4_9
       try clear hcz7_0
       try clear hcz7_1
       try clear hcz7_2
       try clear hcz7_3
       try clear hcz7_4
       try clear hcz7_5
       try clear hcz7_6
       try clear hcz7_7
       try clear hcz7_8
       try clear hcz7_9
       try clear hfz10_0
       try clear hfz10_1
       try clear hfz10_2
       try clear hfz10_3
       try clear hfz10_4
       try clear hfz10_5
       try clear hfz10_6
       try clear hfz10_7
       try clear hfz10_8
       try clear hfz10_9
       try clear hfz13_0
       try clear hfz13_1
       try clear hfz13_2
       try clear hfz13_3
       try clear hfz13_4
       try clear hfz13_5
       try clear hfz13_6
       try clear hfz13_7
       try clear hfz13_8
       try clear hfz13_9
       try clear hfz17_0
       try clear hfz17_1
       try clear hfz17_2
       try clear hfz17_3
       try clear hfz17_4
       try clear hfz17_5
       try clear hfz17_6
       try clear hfz17_7
       try clear hfz17_8
       try clear hfz17_9
       try clear hfz19_0
       try clear hfz19_1
       try clear hfz19_2
       try clear hfz19_3
       try clear hfz19_4
       try clear hfz19_5
       try clear hfz19_6
       try clear hfz19_7
       try clear hfz19_8
       try clear hfz19_9
       try clear hfz22_0
       try clear hfz22_1
       try clear hfz22_2
       try clear hfz22_3
       try clear hfz22_4
       try clear hfz22_5
       try clear hfz22_6
       try clear hfz22_7
       try clear hfz22_8
       try clear hfz22_9
       try clear hfz4_0
       try clear hfz4_1
       try clear hfz4_2
       try clear hfz4_3
       try clear hfz4_4
       try clear hfz4_5
       try clear hfz4_6
       try clear hfz4_7
       try clear hfz4_8
       try clear hfz4_9
       try clear hfz7_0
       try clear hfz7_1
       try clear hfz7_2
       try clear hfz7_3
       try clear hfz7_4
       try clear hfz7_5
       try clear hfz7_6
       try clear hfz7_7
       try clear hfz7_8
       try clear hfz7_9
       obtain ⟨kq, x29_19, rfl, HA, HJ19, BK122, HB⟩ := hcut
       cases kq with
       | zero => exact absurd HA.out (by simp [spec_OneBits.j0])
       | succ kj19 =>
        have H := HA.out
        clear HA
        simp only [spec_OneBits.j0] at H
        by_cases c24 : x29_19 = true
        ·subst c24
         have H1 : (some (64, true)) = some (r1, r2) := by rw [if_pos rfl] at H; exact H
         clear H
         have H := H1
         clear H1
         simp only [Option.some.injEq, Prod.mk.injEq] at H
         obtain ⟨rfl, rfl⟩ := H
         go_wp2
         repeat (go_quiet (fail); try go_wp2)
         go_ret2
         exact ⟨by first | rfl | (simp [errW_none, errW_some] <;> rfl) | (simp [*, errW_none, errW_some] <;> rfl), by repeat (first | (with_reducible first | exact HB.out | apply below_alloc | apply pw_below_drewN | apply below_drew1 | refine below_set ?_ GE122.out) | exact HB.out)⟩
        ·replace c24 := Bool.eq_false_iff.mpr c24
         subst c24
         have H1 : (if a0_0 = 11 then ((some (([32, 64, 0] : List Int) : List Int)).bind fun y123 => (if 0 ≤ a0_3 then (if a0_3 < (y123.length : Int) then (some (rd y123 a0_3, true)) else (none)) else (none))) else (some (0, false))) = some (r1, r2) := by rw [if_neg (show ¬ (false = true) by decide)] at H; exact H
         clear H
         have H := H1
         clear H1
         by_cases c25 : a0_0 = 11
         ·rw [if_pos c25] at H
          have c25b0 : (a0_0 == 11) = true := beq_iff_eq.mpr c25
          have c25b1 : (a0_0 != 11) = false := bne_eq_false_iff_eq.mpr c25
          clear c25
          obtain ⟨y123, hy123⟩ : ∃ y_ : List Int, y_ = (([32, 64, 0] : List Int)) := ⟨_, rfl⟩
          replace H : (if 0 ≤ a0_3 then (if a0_3 < (y123.length : Int) then (some (rd y123 a0_3, true)) else (none)) else (none)) = some (r1, r2) := by first | (rw [hy123]; with_reducible exact H) | (have H2_ := (Option.bind_some _ _).symm.trans H; rw [hy123]; with_reducible exact H2_) | (have H2_ := (Option.bind_some _ _).symm.trans H; with_reducible exact H2_) | with_reducible exact H | (rw [hy123]; exact H) | exact H
          have Ny123 := Aside0.mk hy123
          clear hy123
          by_cases c26 : 0 ≤ a0_3
          ·rw [if_pos c26] at H
           have c26b0 : decide (0 ≤ a0_3) = true := decide_eq_true c26
           clear c26
           by_cases c27 : a0_3 < (y123.length : Int)
           ·rw [if_pos c27] at H
            have c27b0 : decide (a0_3 < (y123.length : Int)) = true := decide_eq_true c27
            clear c27
            simp only [Option.some.injEq, Prod.mk.injEq] at H
            obtain ⟨rfl, rfl⟩ := H
            go_wp2_with (first | ((with_reducible refine gate_dst (N := 34) rfl ?_); refine Kd.R_lit (Kd.int .i64) _ 3 ?hg (N := 34) ?hd (xs := ([32, 64, 0] : List Int)) (inner := [.int .i64 32, .int .i64 64, .int .i64 0]) (ok := fun _ => True) (okp := fun _ => True) ?hr ?hp (fun _ hk => hk) trivial (Below.refl _ _) (Nat.le_refl _) (by simp) ?_; (case hd => rfl); (case hg => rfl); (case hr => first | (go_simp; done) | (go_simp; rfl)); (case hp => exact (Reps.one (show Kd.M (Kd.int .i64) _ _ _ 32 [.int .i64 32] from rfl) (Reps.one (show Kd.M (Kd.int .i64) _ _ _ 64 [.int .i64 64] from rfl) (Reps.one (show Kd.M (Kd.int .i64) _ _ _ 0 [.int .i64 0] from rfl) (Reps.none _ _))))); intro v124 w28 ho29 hb hg_ hnew_; clear hg_ hnew_; (first | rw [← Ny123.out] at ho29 | (simp only [Int.reduceToNat] at ho29; rw [← Ny123.out] at ho29)); have n0_ := Aside0.mk (Kd.R_lower ho29 (below_size (by repeat (first | (with_reducible first | exact HB.out | apply below_alloc | apply pw_below_drewN | apply below_drew1 | refine below_set ?_ GE122.out) | exact HB.out)))); have n1_ := Aside0.mk (blk_below (g := gb122) (o := .cells #[.int .i64 a0_0, .int .i64 a0_1, .bool a0_2, .int .i64 a0_3, .int .i64 a0_4, .int .i64 a0_5, .string a0_6, .bool a0_7, .slice A0_8 l0_8.length c0_8, .slice A0_9 l0_9.length c0_9] 35 (0, 0)) (by (with_reducible repeat (first | refine blk_drewN ?_ _ | refine blk_drew ?_ | refine blk_alloc ?_ _)); exact BK122.out) hb); have n2_ := Aside0.mk (below_step (by repeat (first | (with_reducible first | exact HB.out | apply below_alloc | apply pw_below_drewN | apply below_drew1 | refine below_set ?_ GE122.out) | exact HB.out)) hb); clear BK122; clear HB; have HO125 := n0_; have BK122 := n1_; have HB := n2_; clear n0_ n1_ n2_; clear hb ho29; have hcz30_0 : w28.cell? ⟨gb122, 0, none⟩ = some (.int .i64 a0_0) := (blk_cell BK122.out 0).trans rfl; have hcz30_1 : w28.cell? ⟨gb122, 1, none⟩ = some (.int .i64 a0_1) := (blk_cell BK122.out 1).trans rfl; have hcz30_2 : w28.cell? ⟨gb122, 2, none⟩ = some (.bool a0_2) := (blk_cell BK122.out 2).trans rfl; have hcz30_3 : w28.cell? ⟨gb122, 3, none⟩ = some (.int .i64 a0_3) := (blk_cell BK122.out 3).trans rfl; have hcz30_4 : w28.cell? ⟨gb122, 4, none⟩ = some (.int .i64 a0_4) := (blk_cell BK122.out 4).trans rfl; have hcz30_5 : w28.cell? ⟨gb122, 5, none⟩ = some (.int .i64 a0_5) := (blk_cell BK122.out 5).trans rfl; have hcz30_6 : w28.cell? ⟨gb122, 6, none⟩ = some (.string a0_6) := (blk_cell BK122.out 6).trans rfl; have hcz30_7 : w28.cell? ⟨gb122, 7, none⟩ = some (.bool a0_7) := (blk_cell BK122.out 7).trans rfl; have hcz30_8 : w28.cell? ⟨gb122, 8, none⟩ = some (.slice A0_8 l0_8.length c0_8) := (blk_cell BK122.out 8).trans rfl; have hcz30_9 : w28.cell? ⟨gb122, 9, none⟩ = some (.slice A0_9 l0_9.length c0_9) := (blk_cell BK122.out 9).trans rfl; have hfz30_0 := blk_frozen BK122.out 0; have hfz30_1 := blk_frozen BK122.out 1; have hfz30_2 := blk_frozen BK122.out 2; have hfz30_3 := blk_frozen BK122.out 3; have hfz30_4 := blk_frozen BK122.out 4; have hfz30_5 := blk_frozen BK122.out 5; have hfz30_6 := blk_frozen BK122.out 6; have hfz30_7 := blk_frozen BK122.out 7; have hfz30_8 := blk_frozen BK122.out 8; have hfz30_9 := blk_frozen BK122.out 9; obtain ⟨Ao31, co31, eo31⟩ := Kd.R_slice HO125.out; subst eo31; have p126 : 0 ≤ (a0_3 : Int) := of_decide_eq_true (by first | (with_reducible assumption) | assumption); have q126 : a0_3 < (y123.length : Int) := of_decide_eq_true (by first | (with_reducible assumption) | assumption); obtain ⟨ad126, e126, hx126_0⟩ := Kd.at_int (Kd.R_reads' HO125.out).2.2 a0_3 p126 q126; cases e126; replace p126 := eq_true p126; replace q126 := eq_true q126))
            repeat (go_quiet (first | ((with_reducible refine gate_dst (N := 34) rfl ?_); refine Kd.R_lit (Kd.int .i64) _ 3 ?hg (N := 34) ?hd (xs := ([32, 64, 0] : List Int)) (inner := [.int .i64 32, .int .i64 64, .int .i64 0]) (ok := fun _ => True) (okp := fun _ => True) ?hr ?hp (fun _ hk => hk) trivial (Below.refl _ _) (Nat.le_refl _) (by simp) ?_; (case hd => rfl); (case hg => rfl); (case hr => first | (go_simp; done) | (go_simp; rfl)); (case hp => exact (Reps.one (show Kd.M (Kd.int .i64) _ _ _ 32 [.int .i64 32] from rfl) (Reps.one (show Kd.M (Kd.int .i64) _ _ _ 64 [.int .i64 64] from rfl) (Reps.one (show Kd.M (Kd.int .i64) _ _ _ 0 [.int .i64 0] from rfl) (Reps.none _ _))))); intro v124 w28 ho29 hb hg_ hnew_; clear hg_ hnew_; (first | rw [← Ny123.out] at ho29 | (simp only [Int.reduceToNat] at ho29; rw [← Ny123.out] at ho29)); have n0_ := Aside0.mk (Kd.R_lower ho29 (below_size (by repeat (first | (with_reducible first | exact HB.out | apply below_alloc | apply pw_below_drewN | apply below_drew1 | refine below_set ?_ GE122.out) | exact HB.out)))); have n1_ := Aside0.mk (blk_below (g := gb122) (o := .cells #[.int .i64 a0_0, .int .i64 a0_1, .bool a0_2, .int .i64 a0_3, .int .i64 a0_4, .int .i64 a0_5, .string a0_6, .bool a0_7, .slice A0_8 l0_8.length c0_8, .slice A0_9 l0_9.length c0_9] 35 (0, 0)) (by (with_reducible repeat (first | refine blk_drewN ?_ _ | refine blk_drew ?_ | refine blk_alloc ?_ _)); exact BK122.out) hb); have n2_ := Aside0.mk (below_step (by repeat (first | (with_reducible first | exact HB.out | apply below_alloc | apply pw_below_drewN | apply below_drew1 | refine below_set ?_ GE122.out) | exact HB.out)) hb); clear BK122; clear HB; have HO125 := n0_; have BK122 := n1_; have HB := n2_; clear n0_ n1_ n2_; clear hb ho29; have hcz30_0 : w28.cell? ⟨gb122, 0, none⟩ = some (.int .i64 a0_0) := (blk_cell BK122.out 0).trans rfl; have hcz30_1 : w28.cell? ⟨gb122, 1, none⟩ = some (.int .i64 a0_1) := (blk_cell BK122.out 1).trans rfl; have hcz30_2 : w28.cell? ⟨gb122, 2, none⟩ = some (.bool a0_2) := (blk_cell BK122.out 2).trans rfl; have hcz30_3 : w28.cell? ⟨gb122, 3, none⟩ = some (.int .i64 a0_3) := (blk_cell BK122.out 3).trans rfl; have hcz30_4 : w28.cell? ⟨gb122, 4, none⟩ = some (.int .i64 a0_4) := (blk_cell BK122.out 4).trans rfl; have hcz30_5 : w28.cell? ⟨gb122, 5, none⟩ = some (.int .i64 a0_5) := (blk_cell BK122.out 5).trans rfl; have hcz30_6 : w28.cell? ⟨gb122, 6, none⟩ = some (.string a0_6) := (blk_cell BK122.out 6).trans rfl; have hcz30_7 : w28.cell? ⟨gb122, 7, none⟩ = some (.bool a0_7) := (blk_cell BK122.out 7).trans rfl; have hcz30_8 : w28.cell? ⟨gb122, 8, none⟩ = some (.slice A0_8 l0_8.length c0_8) := (blk_cell BK122.out 8).trans rfl; have hcz30_9 : w28.cell? ⟨gb122, 9, none⟩ = some (.slice A0_9 l0_9.length c0_9) := (blk_cell BK122.out 9).trans rfl; have hfz30_0 := blk_frozen BK122.out 0; have hfz30_1 := blk_frozen BK122.out 1; have hfz30_2 := blk_frozen BK122.out 2; have hfz30_3 := blk_frozen BK122.out 3; have hfz30_4 := blk_frozen BK122.out 4; have hfz30_5 := blk_frozen BK122.out 5; have hfz30_6 := blk_frozen BK122.out 6; have hfz30_7 := blk_frozen BK122.out 7; have hfz30_8 := blk_frozen BK122.out 8; have hfz30_9 := blk_frozen BK122.out 9; obtain ⟨Ao31, co31, eo31⟩ := Kd.R_slice HO125.out; subst eo31; have p126 : 0 ≤ (a0_3 : Int) := of_decide_eq_true (by first | (with_reducible assumption) | assumption); have q126 : a0_3 < (y123.length : Int) := of_decide_eq_true (by first | (with_reducible assumption) | assumption); obtain ⟨ad126, e126, hx126_0⟩ := Kd.at_int (Kd.R_reads' HO125.out).2.2 a0_3 p126 q126; cases e126; replace p126 := eq_true p126; replace q126 := eq_true q126)); try go_wp2_with (first | ((with_reducible refine gate_dst (N := 34) rfl ?_); refine Kd.R_lit (Kd.int .i64) _ 3 ?hg (N := 34) ?hd (xs := ([32, 64, 0] : List Int)) (inner := [.int .i64 32, .int .i64 64, .int .i64 0]) (ok := fun _ => True) (okp := fun _ => True) ?hr ?hp (fun _ hk => hk) trivial (Below.refl _ _) (Nat.le_refl _) (by simp) ?_; (case hd => rfl); (case hg => rfl); (case hr => first | (go_simp; done) | (go_simp; rfl)); (case hp => exact (Reps.one (show Kd.M (Kd.int .i64) _ _ _ 32 [.int .i64 32] from rfl) (Reps.one (show Kd.M (Kd.int .i64) _ _ _ 64 [.int .i64 64] from rfl) (Reps.one (show Kd.M (Kd.int .i64) _ _ _ 0 [.int .i64 0] from rfl) (Reps.none _ _))))); intro v124 w28 ho29 hb hg_ hnew_; clear hg_ hnew_; (first | rw [← Ny123.out] at ho29 | (simp only [Int.reduceToNat] at ho29; rw [← Ny123.out] at ho29)); have n0_ := Aside0.mk (Kd.R_lower ho29 (below_size (by repeat (first | (with_reducible first | exact HB.out | apply below_alloc | apply pw_below_drewN | apply below_drew1 | refine below_set ?_ GE122.out) | exact HB.out)))); have n1_ := Aside0.mk (blk_below (g := gb122) (o := .cells #[.int .i64 a0_0, .int .i64 a0_1, .bool a0_2, .int .i64 a0_3, .int .i64 a0_4, .int .i64 a0_5, .string a0_6, .bool a0_7, .slice A0_8 l0_8.length c0_8, .slice A0_9 l0_9.length c0_9] 35 (0, 0)) (by (with_reducible repeat (first | refine blk_drewN ?_ _ | refine blk_drew ?_ | refine blk_alloc ?_ _)); exact BK122.out) hb); have n2_ := Aside0.mk (below_step (by repeat (first | (with_reducible first | exact HB.out | apply below_alloc | apply pw_below_drewN | apply below_drew1 | refine below_set ?_ GE122.out) | exact HB.out)) hb); clear BK122; clear HB; have HO125 := n0_; have BK122 := n1_; have HB := n2_; clear n0_ n1_ n2_; clear hb ho29; have hcz30_0 : w28.cell? ⟨gb122, 0, none⟩ = some (.int .i64 a0_0) := (blk_cell BK122.out 0).trans rfl; have hcz30_1 : w28.cell? ⟨gb122, 1, none⟩ = some (.int .i64 a0_1) := (blk_cell BK122.out 1).trans rfl; have hcz30_2 : w28.cell? ⟨gb122, 2, none⟩ = some (.bool a0_2) := (blk_cell BK122.out 2).trans rfl; have hcz30_3 : w28.cell? ⟨gb122, 3, none⟩ = some (.int .i64 a0_3) := (blk_cell BK122.out 3).trans rfl; have hcz30_4 : w28.cell? ⟨gb122, 4, none⟩ = some (.int .i64 a0_4) := (blk_cell BK122.out 4).trans rfl; have hcz30_5 : w28.cell? ⟨gb122, 5, none⟩ = some (.int .i64 a0_5) := (blk_cell BK122.out 5).trans rfl; have hcz30_6 : w28.cell? ⟨gb122, 6, none⟩ = some (.string a0_6) := (blk_cell BK122.out 6).trans rfl; have hcz30_7 : w28.cell? ⟨gb122, 7, none⟩ = some (.bool a0_7) := (blk_cell BK122.out 7).trans rfl; have hcz30_8 : w28.cell? ⟨gb122, 8, none⟩ = some (.slice A0_8 l0_8.length c0_8) := (blk_cell BK122.out 8).trans rfl; have hcz30_9 : w28.cell? ⟨gb122, 9, none⟩ = some (.slice A0_9 l0_9.length c0_9) := (blk_cell BK122.out 9).trans rfl; have hfz30_0 := blk_frozen BK122.out 0; have hfz30_1 := blk_frozen BK122.out 1; have hfz30_2 := blk_frozen BK122.out 2; have hfz30_3 := blk_frozen BK122.out 3; have hfz30_4 := blk_frozen BK122.out 4; have hfz30_5 := blk_frozen BK122.out 5; have hfz30_6 := blk_frozen BK122.out 6; have hfz30_7 := blk_frozen BK122.out 7; have hfz30_8 := blk_frozen BK122.out 8; have hfz30_9 := blk_frozen BK122.out 9; obtain ⟨Ao31, co31, eo31⟩ := Kd.R_slice HO125.out; subst eo31; have p126 : 0 ≤ (a0_3 : Int) := of_decide_eq_true (by first | (with_reducible assumption) | assumption); have q126 : a0_3 < (y123.length : Int) := of_decide_eq_true (by first | (with_reducible assumption) | assumption); obtain ⟨ad126, e126, hx126_0⟩ := Kd.at_int (Kd.R_reads' HO125.out).2.2 a0_3 p126 q126; cases e126; replace p126 := eq_true p126; replace q126 := eq_true q126)))
            go_ret2
            exact ⟨by first | rfl | (simp [errW_none, errW_some] <;> rfl) | (simp [*, errW_none, errW_some] <;> rfl), by repeat (first | (with_reducible first | exact HB.out | apply below_alloc | apply pw_below_drewN | apply below_drew1 | refine below_set ?_ GE122.out) | exact HB.out)⟩
           ·rw [if_neg c27] at H
            exact absurd H (by simp)
          ·rw [if_neg c26] at H
           exact absurd H (by simp)
         ·rw [if_neg c25] at H
          have c25b0 : (a0_0 == 11) = false := beq_eq_false_iff_ne.mpr c25
          have c25b1 : (a0_0 != 11) = true := bne_iff_ne.mpr c25
          simp only [Option.some.injEq, Prod.mk.injEq] at H
          obtain ⟨rfl, rfl⟩ := H
          go_wp2
          repeat (go_quiet (fail); try go_wp2)
          go_ret2
          exact ⟨by first | rfl | (simp [errW_none, errW_some] <;> rfl) | (simp [*, errW_none, errW_some] <;> rfl), by repeat (first | (with_reducible first | exact HB.out | apply below_alloc | apply pw_below_drewN | apply below_drew1 | refine below_set ?_ GE122.out) | exact HB.out)⟩

/-! ### spec_OneLength: function 49 -/
def spec_OneLength.f (a0_0 : Int) (a0_1 : Int) (a0_2 : Bool) (a0_3 : Int) (a0_4 : Int) (a0_5 : Int) (a0_6 : ByteArray) (a0_7 : Bool) (l0_8 : List Int) (l0_9 : List Int) : Option (Int) := if a0_0 = 7 then (some (wrap64 (Int.tdiv a0_1 8))) else (if a0_0 = 11 then (some 16) else (if a0_0 = 15 then (some a0_1) else (some (-1))))
set_option maxHeartbeats 8000000 in
set_option maxRecDepth 100000 in
theorem spec_OneLength.calls (a0_0 : Int) (a0_1 : Int) (a0_2 : Bool) (a0_3 : Int) (a0_4 : Int) (a0_5 : Int) (a0_6 : ByteArray) (a0_7 : Bool) (A0_8 : Option Addr) (c0_8 : Nat) (l0_8 : List Int) (A0_9 : Option Addr) (c0_9 : Nat) (l0_9 : List Int) (r : Int) (w : World) (hr0_8 : Kd.C (Kd.int .i64) w A0_8 l0_8.length l0_8) (hc0_8 : l0_8.length ≤ c0_8) (hr0_9 : Kd.C (Kd.int .i64) w A0_9 l0_9.length l0_9) (hc0_9 : l0_9.length ≤ c0_9) (h : spec_OneLength.f a0_0 a0_1 a0_2 a0_3 a0_4 a0_5 a0_6 a0_7 l0_8 l0_9 = some r) :
  Calls Tryz.prog 49 #[.agg #[.int .i64 a0_0, .int .i64 a0_1, .bool a0_2, .int .i64 a0_3, .int .i64 a0_4, .int .i64 a0_5, .string a0_6, .bool a0_7, .slice A0_8 l0_8.length c0_8, .slice A0_9 l0_9.length c0_9]] w fun e w' => e = .returned (.int .i64 r) ∧ Below w.heap.size w w' := by
 have hu35 := Tryz.underlying35
 have HR0_8 := Aside0.mk hr0_8
 have HC0_8 := Aside0.mk hc0_8
 clear hr0_8 hc0_8
 have HR0_9 := Aside0.mk hr0_9
 have HC0_9 := Aside0.mk hc0_9
 clear hr0_9 hc0_9
 have HB := Aside0.mk (Below.refl w.heap.size w)
 have H : (if a0_0 = 7 then (some (wrap64 (Int.tdiv a0_1 8))) else (if a0_0 = 11 then (some 16) else (if a0_0 = 15 then (some a0_1) else (some (-1))))) = some r := h
 clear h
 by_cases c2 : a0_0 = 7
 ·rw [if_pos c2] at H
  have c2b0 : (a0_0 == 7) = true := beq_iff_eq.mpr c2
  have c2b1 : (a0_0 != 7) = false := bne_eq_false_iff_eq.mpr c2
  clear c2
  obtain rfl := Option.some.inj H
  go_enter Tryz.func49, Tryz.ntmps49
  go_wp2_with (first | ((with_reducible refine gate_dst (N := 1) rfl ?_); refine box_event ?hg (N := 1) ?hd (cs := #[.int .i64 a0_0, .int .i64 a0_1, .bool a0_2, .int .i64 a0_3, .int .i64 a0_4, .int .i64 a0_5, .string a0_6, .bool a0_7, .slice A0_8 l0_8.length c0_8, .slice A0_9 l0_9.length c0_9]) (t := 35) ?hr ?_; (case hd => rfl); (case hg => rfl); (case hr => first | (go_simp; done) | (go_simp; rfl)); intro gb127 hg w3 hbox hb; have n0_ := Aside0.mk (below_step (by repeat (first | (with_reducible first | exact HB.out | apply below_alloc | apply pw_below_drewN | apply below_drew1) | exact HB.out)) hb); have n1_ := Aside0.mk (hbox); have n2_ := Aside0.mk ((by rw [hg]; exact (below_size (by repeat (first | (with_reducible first | exact HB.out | apply below_alloc | apply pw_below_drewN | apply below_drew1) | exact HB.out))) : w.heap.size ≤ gb127)); have n3_ := Aside0.mk ((by rw [hg]; exact (below_size (by repeat (first | (with_reducible first | exact HB.out | apply below_alloc | apply pw_below_drewN | apply below_drew1) | exact HB.out))) : w.heap.size ≤ gb127)); clear HB; have HB := n0_; have BK127 := n1_; have GW127 := n2_; have GE127 := n3_; clear n0_ n1_ n2_ n3_; clear hb hbox hg; have hcz4_0 : w3.cell? ⟨gb127, 0, none⟩ = some (.int .i64 a0_0) := (blk_cell BK127.out 0).trans rfl; have hcz4_1 : w3.cell? ⟨gb127, 1, none⟩ = some (.int .i64 a0_1) := (blk_cell BK127.out 1).trans rfl; have hcz4_2 : w3.cell? ⟨gb127, 2, none⟩ = some (.bool a0_2) := (blk_cell BK127.out 2).trans rfl; have hcz4_3 : w3.cell? ⟨gb127, 3, none⟩ = some (.int .i64 a0_3) := (blk_cell BK127.out 3).trans rfl; have hcz4_4 : w3.cell? ⟨gb127, 4, none⟩ = some (.int .i64 a0_4) := (blk_cell BK127.out 4).trans rfl; have hcz4_5 : w3.cell? ⟨gb127, 5, none⟩ = some (.int .i64 a0_5) := (blk_cell BK127.out 5).trans rfl; have hcz4_6 : w3.cell? ⟨gb127, 6, none⟩ = some (.string a0_6) := (blk_cell BK127.out 6).trans rfl; have hcz4_7 : w3.cell? ⟨gb127, 7, none⟩ = some (.bool a0_7) := (blk_cell BK127.out 7).trans rfl; have hcz4_8 : w3.cell? ⟨gb127, 8, none⟩ = some (.slice A0_8 l0_8.length c0_8) := (blk_cell BK127.out 8).trans rfl; have hcz4_9 : w3.cell? ⟨gb127, 9, none⟩ = some (.slice A0_9 l0_9.length c0_9) := (blk_cell BK127.out 9).trans rfl; have hfz4_0 := blk_frozen BK127.out 0; have hfz4_1 := blk_frozen BK127.out 1; have hfz4_2 := blk_frozen BK127.out 2; have hfz4_3 := blk_frozen BK127.out 3; have hfz4_4 := blk_frozen BK127.out 4; have hfz4_5 := blk_frozen BK127.out 5; have hfz4_6 := blk_frozen BK127.out 6; have hfz4_7 := blk_frozen BK127.out 7; have hfz4_8 := blk_frozen BK127.out 8; have hfz4_9 := blk_frozen BK127.out 9))
  go_ret
  exact ⟨by first | rfl | (simp [errW_none, errW_some] <;> rfl) | (simp [*, errW_none, errW_some] <;> rfl), by repeat (first | (with_reducible first | exact HB.out | apply below_alloc | apply pw_below_drewN | apply below_drew1 | refine below_set ?_ GE127.out) | exact HB.out)⟩
 ·rw [if_neg c2] at H
  have c2b0 : (a0_0 == 7) = false := beq_eq_false_iff_ne.mpr c2
  have c2b1 : (a0_0 != 7) = true := bne_iff_ne.mpr c2
  by_cases c5 : a0_0 = 11
  ·rw [if_pos c5] at H
   have c5b0 : (a0_0 == 11) = true := beq_iff_eq.mpr c5
   have c5b1 : (a0_0 != 11) = false := bne_eq_false_iff_eq.mpr c5
   clear c5
   obtain rfl := Option.some.inj H
   go_enter Tryz.func49, Tryz.ntmps49
   go_wp2_with (first | ((with_reducible refine gate_dst (N := 1) rfl ?_); refine box_event ?hg (N := 1) ?hd (cs := #[.int .i64 a0_0, .int .i64 a0_1, .bool a0_2, .int .i64 a0_3, .int .i64 a0_4, .int .i64 a0_5, .string a0_6, .bool a0_7, .slice A0_8 l0_8.length c0_8, .slice A0_9 l0_9.length c0_9]) (t := 35) ?hr ?_; (case hd => rfl); (case hg => rfl); (case hr => first | (go_simp; done) | (go_simp; rfl)); intro gb127 hg w6 hbox hb; have n0_ := Aside0.mk (below_step (by repeat (first | (with_reducible first | exact HB.out | apply below_alloc | apply pw_below_drewN | apply below_drew1) | exact HB.out)) hb); have n1_ := Aside0.mk (hbox); have n2_ := Aside0.mk ((by rw [hg]; exact (below_size (by repeat (first | (with_reducible first | exact HB.out | apply below_alloc | apply pw_below_drewN | apply below_drew1) | exact HB.out))) : w.heap.size ≤ gb127)); have n3_ := Aside0.mk ((by rw [hg]; exact (below_size (by repeat (first | (with_reducible first | exact HB.out | apply below_alloc | apply pw_below_drewN | apply below_drew1) | exact HB.out))) : w.heap.size ≤ gb127)); clear HB; have HB := n0_; have BK127 := n1_; have GW127 := n2_; have GE127 := n3_; clear n0_ n1_ n2_ n3_; clear hb hbox hg; have hcz7_0 : w6.cell? ⟨gb127, 0, none⟩ = some (.int .i64 a0_0) := (blk_cell BK127.out 0).trans rfl; have hcz7_1 : w6.cell? ⟨gb127, 1, none⟩ = some (.int .i64 a0_1) := (blk_cell BK127.out 1).trans rfl; have hcz7_2 : w6.cell? ⟨gb127, 2, none⟩ = some (.bool a0_2) := (blk_cell BK127.out 2).trans rfl; have hcz7_3 : w6.cell? ⟨gb127, 3, none⟩ = some (.int .i64 a0_3) := (blk_cell BK127.out 3).trans rfl; have hcz7_4 : w6.cell? ⟨gb127, 4, none⟩ = some (.int .i64 a0_4) := (blk_cell BK127.out 4).trans rfl; have hcz7_5 : w6.cell? ⟨gb127, 5, none⟩ = some (.int .i64 a0_5) := (blk_cell BK127.out 5).trans rfl; have hcz7_6 : w6.cell? ⟨gb127, 6, none⟩ = some (.string a0_6) := (blk_cell BK127.out 6).trans rfl; have hcz7_7 : w6.cell? ⟨gb127, 7, none⟩ = some (.bool a0_7) := (blk_cell BK127.out 7).trans rfl; have hcz7_8 : w6.cell? ⟨gb127, 8, none⟩ = some (.slice A0_8 l0_8.length c0_8) := (blk_cell BK127.out 8).trans rfl; have hcz7_9 : w6.cell? ⟨gb127, 9, none⟩ = some (.slice A0_9 l0_9.length c0_9) := (blk_cell BK127.out 9).trans rfl; have hfz7_0 := blk_frozen BK127.out 0; have hfz7_1 := blk_frozen BK127.out 1; have hfz7_2 := blk_frozen BK127.out 2; have hfz7_3 := blk_frozen BK127.out 3; have hfz7_4 := blk_frozen BK127.out 4; have hfz7_5 := blk_frozen BK127.out 5; have hfz7_6 := blk_frozen BK127.out 6; have hfz7_7 := blk_frozen BK127.out 7; have hfz7_8 := blk_frozen BK127.out 8; have hfz7_9 := blk_frozen BK127.out 9))
   go_ret
   exact ⟨by first | rfl | (simp [errW_none, errW_some] <;> rfl) | (simp [*, errW_none, errW_some] <;> rfl), by repeat (first | (with_reducible first | exact HB.out | apply below_alloc | apply pw_below_drewN | apply below_drew1 | refine below_set ?_ GE127.out) | exact HB.out)⟩
  ·rw [if_neg c5] at H
   have c5b0 : (a0_0 == 11) = false := beq_eq_false_iff_ne.mpr c5
   have c5b1 : (a0_0 != 11) = true := bne_iff_ne.mpr c5
   by_cases c8 : a0_0 = 15
   ·rw [if_pos c8] at H
    have c8b0 : (a0_0 == 15) = true := beq_iff_eq.mpr c8
    have c8b1 : (a0_0 != 15) = false := bne_eq_false_iff_eq.mpr c8
    clear c8
    obtain rfl := Option.some.inj H
    go_enter Tryz.func49, Tryz.ntmps49
    go_wp2_with (first | ((with_reducible refine gate_dst (N := 1) rfl ?_); refine box_event ?hg (N := 1) ?hd (cs := #[.int .i64 a0_0, .int .i64 a0_1, .bool a0_2, .int .i64 a0_3, .int .i64 a0_4, .int .i64 a0_5, .string a0_6, .bool a0_7, .slice A0_8 l0_8.length c0_8, .slice A0_9 l0_9.length c0_9]) (t := 35) ?hr ?_; (case hd => rfl); (case hg => rfl); (case hr => first | (go_simp; done) | (go_simp; rfl)); intro gb127 hg w9 hbox hb; have n0_ := Aside0.mk (below_step (by repeat (first | (with_reducible first | exact HB.out | apply below_alloc | apply pw_below_drewN | apply below_drew1) | exact HB.out)) hb); have n1_ := Aside0.mk (hbox); have n2_ := Aside0.mk ((by rw [hg]; exact (below_size (by repeat (first | (with_reducible first | exact HB.out | apply below_alloc | apply pw_below_drewN | apply below_drew1) | exact HB.out))) : w.heap.size ≤ gb127)); have n3_ := Aside0.mk ((by rw [hg]; exact (below_size (by repeat (first | (with_reducible first | exact HB.out | apply below_alloc | apply pw_below_drewN | apply below_drew1) | exact HB.out))) : w.heap.size ≤ gb127)); clear HB; have HB := n0_; have BK127 := n1_; have GW127 := n2_; have GE127 := n3_; clear n0_ n1_ n2_ n3_; clear hb hbox hg; have hcz10_0 : w9.cell? ⟨gb127, 0, none⟩ = some (.int .i64 a0_0) := (blk_cell BK127.out 0).trans rfl; have hcz10_1 : w9.cell? ⟨gb127, 1, none⟩ = some (.int .i64 a0_1) := (blk_cell BK127.out 1).trans rfl; have hcz10_2 : w9.cell? ⟨gb127, 2, none⟩ = some (.bool a0_2) := (blk_cell BK127.out 2).trans rfl; have hcz10_3 : w9.cell? ⟨gb127, 3, none⟩ = some (.int .i64 a0_3) := (blk_cell BK127.out 3).trans rfl; have hcz10_4 : w9.cell? ⟨gb127, 4, none⟩ = some (.int .i64 a0_4) := (blk_cell BK127.out 4).trans rfl; have hcz10_5 : w9.cell? ⟨gb127, 5, none⟩ = some (.int .i64 a0_5) := (blk_cell BK127.out 5).trans rfl; have hcz10_6 : w9.cell? ⟨gb127, 6, none⟩ = some (.string a0_6) := (blk_cell BK127.out 6).trans rfl; have hcz10_7 : w9.cell? ⟨gb127, 7, none⟩ = some (.bool a0_7) := (blk_cell BK127.out 7).trans rfl; have hcz10_8 : w9.cell? ⟨gb127, 8, none⟩ = some (.slice A0_8 l0_8.length c0_8) := (blk_cell BK127.out 8).trans rfl; have hcz10_9 : w9.cell? ⟨gb127, 9, none⟩ = some (.slice A0_9 l0_9.length c0_9) := (blk_cell BK127.out 9).trans rfl; have hfz10_0 := blk_frozen BK127.out 0; have hfz10_1 := blk_frozen BK127.out 1; have hfz10_2 := blk_frozen BK127.out 2; have hfz10_3 := blk_frozen BK127.out 3; have hfz10_4 := blk_frozen BK127.out 4; have hfz10_5 := blk_frozen BK127.out 5; have hfz10_6 := blk_frozen BK127.out 6; have hfz10_7 := blk_frozen BK127.out 7; have hfz10_8 := blk_frozen BK127.out 8; have hfz10_9 := blk_frozen BK127.out 9))
    go_ret
    exact ⟨by first | rfl | (simp [errW_none, errW_some] <;> rfl) | (simp [*, errW_none, errW_some] <;> rfl), by repeat (first | (with_reducible first | exact HB.out | apply below_alloc | apply pw_below_drewN | apply below_drew1 | refine below_set ?_ GE127.out) | exact HB.out)⟩
   ·rw [if_neg c8] at H
    have c8b0 : (a0_0 == 15) = false := beq_eq_false_iff_ne.mpr c8
    have c8b1 : (a0_0 != 15) = true := bne_iff_ne.mpr c8
    obtain rfl := Option.some.inj H
    go_enter Tryz.func49, Tryz.ntmps49
    go_wp2_with (first | ((with_reducible refine gate_dst (N := 1) rfl ?_); refine box_event ?hg (N := 1) ?hd (cs := #[.int .i64 a0_0, .int .i64 a0_1, .bool a0_2, .int .i64 a0_3, .int .i64 a0_4, .int .i64 a0_5, .string a0_6, .bool a0_7, .slice A0_8 l0_8.length c0_8, .slice A0_9 l0_9.length c0_9]) (t := 35) ?hr ?_; (case hd => rfl); (case hg => rfl); (case hr => first | (go_simp; done) | (go_simp; rfl)); intro gb127 hg w11 hbox hb; have n0_ := Aside0.mk (below_step (by repeat (first | (with_reducible first | exact HB.out | apply below_alloc | apply pw_below_drewN | apply below_drew1) | exact HB.out)) hb); have n1_ := Aside0.mk (hbox); have n2_ := Aside0.mk ((by rw [hg]; exact (below_size (by repeat (first | (with_reducible first | exact HB.out | apply below_alloc | apply pw_below_drewN | apply below_drew1) | exact HB.out))) : w.heap.size ≤ gb127)); have n3_ := Aside0.mk ((by rw [hg]; exact (below_size (by repeat (first | (with_reducible first | exact HB.out | apply below_alloc | apply pw_below_drewN | apply below_drew1) | exact HB.out))) : w.heap.size ≤ gb127)); clear HB; have HB := n0_; have BK127 := n1_; have GW127 := n2_; have GE127 := n3_; clear n0_ n1_ n2_ n3_; clear hb hbox hg; have hcz12_0 : w11.cell? ⟨gb127, 0, none⟩ = some (.int .i64 a0_0) := (blk_cell BK127.out 0).trans rfl; have hcz12_1 : w11.cell? ⟨gb127, 1, none⟩ = some (.int .i64 a0_1) := (blk_cell BK127.out 1).trans rfl; have hcz12_2 : w11.cell? ⟨gb127, 2, none⟩ = some (.bool a0_2) := (blk_cell BK127.out 2).trans rfl; have hcz12_3 : w11.cell? ⟨gb127, 3, none⟩ = some (.int .i64 a0_3) := (blk_cell BK127.out 3).trans rfl; have hcz12_4 : w11.cell? ⟨gb127, 4, none⟩ = some (.int .i64 a0_4) := (blk_cell BK127.out 4).trans rfl; have hcz12_5 : w11.cell? ⟨gb127, 5, none⟩ = some (.int .i64 a0_5) := (blk_cell BK127.out 5).trans rfl; have hcz12_6 : w11.cell? ⟨gb127, 6, none⟩ = some (.string a0_6) := (blk_cell BK127.out 6).trans rfl; have hcz12_7 : w11.cell? ⟨gb127, 7, none⟩ = some (.bool a0_7) := (blk_cell BK127.out 7).trans rfl; have hcz12_8 : w11.cell? ⟨gb127, 8, none⟩ = some (.slice A0_8 l0_8.length c0_8) := (blk_cell BK127.out 8).trans rfl; have hcz12_9 : w11.cell? ⟨gb127, 9, none⟩ = some (.slice A0_9 l0_9.length c0_9) := (blk_cell BK127.out 9).trans rfl; have hfz12_0 := blk_frozen BK127.out 0; have hfz12_1 := blk_frozen BK127.out 1; have hfz12_2 := blk_frozen BK127.out 2; have hfz12_3 := blk_frozen BK127.out 3; have hfz12_4 := blk_frozen BK127.out 4; have hfz12_5 := blk_frozen BK127.out 5; have hfz12_6 := blk_frozen BK127.out 6; have hfz12_7 := blk_frozen BK127.out 7; have hfz12_8 := blk_frozen BK127.out 8; have hfz12_9 := blk_frozen BK127.out 9))
    go_ret
    exact ⟨by first | rfl | (simp [errW_none, errW_some] <;> rfl) | (simp [*, errW_none, errW_some] <;> rfl), by repeat (first | (with_reducible first | exact HB.out | apply below_alloc | apply pw_below_drewN | apply below_drew1 | refine below_set ?_ GE127.out) | exact HB.out)⟩

end Go.Proofs.YtiieljnllgeoeaaGreat.Q
