-- written by programs of ours (wip/tools) out of the kit's printer: the functions of one law, less those that are shared or proved by hand
import Derived.Test.YtgccaabpckfhlaaGreatDoorQ0
import Derived.Test.YtgccaabpckfhlaaGreatDoorQCUb
namespace Go.Proofs.YtgccaabpckfhlaaGreatDoor.Q
open Go.RowKit Go.Proofs.YtgccaabpckfhlaaGreatDoorW.PrintWords Go.Proofs.YtgccaabpckfhlaaGreatDoorW.PrintLast Go.Proofs.YtgccaabpckfhlaaGreatDoorW.PrintMore
attribute [local go_sem] max2_int min2_int max_two min_two max_three min_three max_four min_four
set_option linter.unusedVariables false
set_option linter.unusedSimpArgs false

/-! ### laws_asValues: function 6 -/
def laws_asValues.l0 : Nat → List (S52) → List Int → Int → Int → Int → Int → Bool → Int → Int → Int → ByteArray → Bool → List Int → List Int → Option ((List (S52)) × Bool)
  | 0, _, _, _, _, _, _, _, _, _, _, _, _, _, _ => none
  | k + 1, x6, x10, x11, x12, x129000, x129001, x129002, x129003, x129004, x129005, x129006, x129007, x129008, x129009 => if x12 < x11 then (if 0 ≤ x12 then (if x12 < (x10.length : Int) then ((spec_OneFits.f k x129000 x129001 x129002 x129003 x129004 x129005 x129006 x129007 x129008 x129009 false (rd x10 x12) (⟨#[]⟩ : ByteArray) ([] : List (S52))).bind fun t131 => (if t131 = true then (if x6.length < 2513169434916 then (laws_asValues.l0 k (x6 ++ [(⟨false, rd x10 x12, (⟨#[]⟩ : ByteArray), ([] : List (S52))⟩ : S52)]) x10 x11 (wrap64 (x12 + 1)) x129000 x129001 x129002 x129003 x129004 x129005 x129006 x129007 x129008 x129009) else (none)) else (some (([] : List (S52)), false)))) else (none)) else (none)) else (some (x6, decide ((x6.length : Int) ≤ 300)))
def laws_asValues.f (k : Nat) (a0_0 : Int) (a0_1 : Int) (a0_2 : Bool) (a0_3 : Int) (a0_4 : Int) (a0_5 : Int) (a0_6 : ByteArray) (a0_7 : Bool) (l0_8 : List Int) (l0_9 : List Int) (l1 : List Int) : Option ((List (S52)) × Bool) := laws_asValues.l0 k ([] : List (S52)) l1 (l1.length : Int) 0 a0_0 a0_1 a0_2 a0_3 a0_4 a0_5 a0_6 a0_7 l0_8 l0_9
theorem laws_asValues.mono_l : ∀ k, (∀ y0 y1 y2 y3 y4 y5 y6 y7 y8 y9 y10 y11 y12 y13, LeO (laws_asValues.l0 k y0 y1 y2 y3 y4 y5 y6 y7 y8 y9 y10 y11 y12 y13) (laws_asValues.l0 (k + 1) y0 y1 y2 y3 y4 y5 y6 y7 y8 y9 y10 y11 y12 y13))
  | 0 => fun _ _ _ _ _ _ _ _ _ _ _ _ _ _ r h => by simp [laws_asValues.l0] at h
  | k + 1 => by
    have ih0 := laws_asValues.mono_l k
    · intro y0 y1 y2 y3 y4 y5 y6 y7 y8 y9 y10 y11 y12 y13
      unfold laws_asValues.l0
      repeat' first
      | (with_reducible exact ih0 _ _ _ _ _ _ _ _ _ _ _ _ _ _)
      | (with_reducible exact spec_OneFits.mono _ _ _ _ _ _ _ _ _ _ _ _ _ _ _)
      | (with_reducible exact LeO.refl _)
      | (with_reducible exact LeO.none _)
      | (with_reducible refine LeO.ite ?_ ?_)
      | (with_reducible refine LeO.bind ?_ (fun _ => ?_))
      | exact ih0 _ _ _ _ _ _ _ _ _ _ _ _ _ _
      | exact spec_OneFits.mono _ _ _ _ _ _ _ _ _ _ _ _ _ _ _
      | exact LeO.none _
      | refine LeO.ite ?_ ?_
      | refine LeO.bind ?_ (fun _ => ?_)
theorem laws_asValues.mono : ∀ a0 a1 a2 a3 a4 a5 a6 a7 a8 a9 a10 k, LeO (laws_asValues.f k a0 a1 a2 a3 a4 a5 a6 a7 a8 a9 a10) (laws_asValues.f (k + 1) a0 a1 a2 a3 a4 a5 a6 a7 a8 a9 a10) := by
  intro a0 a1 a2 a3 a4 a5 a6 a7 a8 a9 a10 k
  have ih0 := laws_asValues.mono_l k
  unfold laws_asValues.f
  repeat' first
      | (with_reducible exact ih0 _ _ _ _ _ _ _ _ _ _ _ _ _ _)
      | (with_reducible exact spec_OneFits.mono _ _ _ _ _ _ _ _ _ _ _ _ _ _ _)
      | (with_reducible exact LeO.refl _)
      | (with_reducible exact LeO.none _)
      | (with_reducible refine LeO.ite ?_ ?_)
      | (with_reducible refine LeO.bind ?_ (fun _ => ?_))
      | exact ih0 _ _ _ _ _ _ _ _ _ _ _ _ _ _
      | exact spec_OneFits.mono _ _ _ _ _ _ _ _ _ _ _ _ _ _ _
      | exact LeO.none _
      | refine LeO.ite ?_ ?_
      | refine LeO.bind ?_ (fun _ => ?_)
set_option maxHeartbeats 8000000 in
set_option maxRecDepth 100000 in
theorem laws_asValues.calls (k : Nat) (a0_0 : Int) (a0_1 : Int) (a0_2 : Bool) (a0_3 : Int) (a0_4 : Int) (a0_5 : Int) (a0_6 : ByteArray) (a0_7 : Bool) (A0_8 : Option Addr) (c0_8 : Nat) (l0_8 : List Int) (A0_9 : Option Addr) (c0_9 : Nat) (l0_9 : List Int) (A1 : Option Addr) (c1 : Nat) (l1 : List Int) (r1 : List (S52)) (r2 : Bool) (w : World) (hr0_8 : Kd.C (Kd.int .i64) w A0_8 l0_8.length l0_8) (hc0_8 : l0_8.length ≤ c0_8) (hr0_9 : Kd.C (Kd.int .i64) w A0_9 l0_9.length l0_9) (hc0_9 : l0_9.length ≤ c0_9) (hr1 : Kd.C (Kd.int .u64) w A1 l1.length l1) (hc1 : l1.length ≤ c1) (h : laws_asValues.f k a0_0 a0_1 a0_2 a0_3 a0_4 a0_5 a0_6 a0_7 l0_8 l0_9 l1 = some (r1, r2)) :
    Calls Tryz.prog 6 #[.agg #[.int .i64 a0_0, .int .i64 a0_1, .bool a0_2, .int .i64 a0_3, .int .i64 a0_4, .int .i64 a0_5, .string a0_6, .bool a0_7, .slice A0_8 l0_8.length c0_8, .slice A0_9 l0_9.length c0_9], .slice A1 l1.length c1] w fun e w' => ∃ v0_ : Value, e = .returned (.tuple #[v0_, .bool r2]) ∧ Kd.R k52 52 w' w.heap.size (fun _ => True) v0_ r1 ∧ Below w.heap.size w w' := by
  have hu35 := Tryz.underlying35
  have hu52 := Tryz.underlying52
  have HR0_8 := Aside0.mk hr0_8
  have HC0_8 := Aside0.mk hc0_8
  clear hr0_8 hc0_8
  have HR0_9 := Aside0.mk hr0_9
  have HC0_9 := Aside0.mk hc0_9
  clear hr0_9 hc0_9
  have HR1 := Aside0.mk hr1
  have HC1 := Aside0.mk hc1
  clear hr1 hc1
  have HB := Aside0.mk (Below.refl w.heap.size w)
  have H : (laws_asValues.l0 k ([] : List (S52)) l1 (l1.length : Int) 0 a0_0 a0_1 a0_2 a0_3 a0_4 a0_5 a0_6 a0_7 l0_8 l0_9) = some (r1, r2) := h
  clear h
  have H' := Aside0.mk H
  clear H
  go_enter Tryz.func6, Tryz.ntmps6
  go_wp2_with (first | ((with_reducible refine gate_dst (N := 2) rfl ?_); refine box_event ?hg (N := 2) ?hd (cs := #[.int .i64 a0_0, .int .i64 a0_1, .bool a0_2, .int .i64 a0_3, .int .i64 a0_4, .int .i64 a0_5, .string a0_6, .bool a0_7, .slice A0_8 l0_8.length c0_8, .slice A0_9 l0_9.length c0_9]) (t := 35) ?hr ?_; (case hd => rfl); (case hg => rfl); (case hr => first | (go_simp; done) | (go_simp; rfl)); intro gb128 hg w3 hbox hb; have n0_ := Aside0.mk (below_step (by repeat (first | (with_reducible first | exact HB.out | apply below_alloc | apply pw_below_drewN | apply below_drew1) | exact HB.out)) hb); have n1_ := Aside0.mk (hbox); have n2_ := Aside0.mk ((by rw [hg]; exact (below_size (by repeat (first | (with_reducible first | exact HB.out | apply below_alloc | apply pw_below_drewN | apply below_drew1) | exact HB.out))) : w.heap.size ≤ gb128)); have n3_ := Aside0.mk ((by rw [hg]; exact (below_size (by repeat (first | (with_reducible first | exact HB.out | apply below_alloc | apply pw_below_drewN | apply below_drew1) | exact HB.out))) : w.heap.size ≤ gb128)); clear HB; have HB := n0_; have BK128 := n1_; have GW128 := n2_; have GE128 := n3_; clear n0_ n1_ n2_ n3_; clear hb hbox hg))
  go_loopg [6, 12] k (fun kq v6 v12 w' => ∃ (x6_1 : List (S52)) (x12_1 : Int), v12 = .int .i64 x12_1 ∧ Aside0 (laws_asValues.l0 kq x6_1 l1 (l1.length : Int) x12_1 a0_0 a0_1 a0_2 a0_3 a0_4 a0_5 a0_6 a0_7 l0_8 l0_9 = some (r1, r2)) ∧ Aside0 (kq ≤ k) ∧ Aside0 (Kd.R k52 52 w' w.heap.size (fun _ => True) v6 x6_1) ∧ Aside0 (w'.heap[gb128]? = some (.cells #[.int .i64 a0_0, .int .i64 a0_1, .bool a0_2, .int .i64 a0_3, .int .i64 a0_4, .int .i64 a0_5, .string a0_6, .bool a0_7, (.slice A0_8 l0_8.length c0_8), (.slice A0_9 l0_9.length c0_9)] 35 (0, 0))) ∧ Aside0 (Below w.heap.size w w'))
  case atStart => exact ⟨(([] : List (S52))), (0), (by first | rfl | (simp; done) | (simp [*]; done)), H', ⟨Nat.le_refl _⟩, ⟨by first | exact Kd.R_nil _ _ _ _ _ | exact Kd.N_nil _ _ _ _ _ | exact Kd.V_nil _ _ _ _ _ | exact Kd.Q_nil _ _ _ _ _ | exact Kd.S_nil _ _ _ _ _⟩, ⟨by (with_reducible repeat (first | refine blk_drewN ?_ _ | refine blk_drew ?_ | refine blk_alloc ?_ _)); exact BK128.out⟩, ⟨by repeat (first | (with_reducible first | exact HB.out | apply below_alloc | apply pw_below_drewN | apply below_drew1 | refine below_set ?_ GE128.out) | exact HB.out)⟩⟩
  case round =>
    clear H'
    try clear c1
    try clear p2
    obtain ⟨x6_1, x12_1, rfl, HA, HK1, HO_6, BK128, HB⟩ := hrel
    cases gk with
    | zero => exact absurd HA.out (by simp [laws_asValues.l0])
    | succ k1 =>
      have H := HA.out
      clear HA
      simp only [laws_asValues.l0] at H
      by_cases c4 : x12_1 < (l1.length : Int)
      · rw [if_pos c4] at H
        have c4b0 : decide (x12_1 < (l1.length : Int)) = true := decide_eq_true c4
        clear c4
        by_cases c5 : 0 ≤ x12_1
        · rw [if_pos c5] at H
          have c5b0 : decide (0 ≤ x12_1) = true := decide_eq_true c5
          clear c5
          by_cases c6 : x12_1 < (l1.length : Int)
          · rw [if_pos c6] at H
            have c6b0 : decide (x12_1 < (l1.length : Int)) = true := decide_eq_true c6
            clear c6
            replace H := Option.bind_eq_some_iff.mp H
            obtain ⟨t131, A70, H⟩ := H
            replace H : (if t131 = true then (if x6_1.length < 2513169434916 then (laws_asValues.l0 k1 (x6_1 ++ [(⟨false, rd l1 x12_1, (⟨#[]⟩ : ByteArray), ([] : List (S52))⟩ : S52)]) l1 (l1.length : Int) (wrap64 (x12_1 + 1)) a0_0 a0_1 a0_2 a0_3 a0_4 a0_5 a0_6 a0_7 l0_8 l0_9) else (none)) else (some (([] : List (S52)), false))) = some (r1, r2) := H
            have A7 := Aside0.mk A70
            clear A70
            by_cases c8 : t131 = true
            · subst c8
              have H1 : (if x6_1.length < 2513169434916 then (laws_asValues.l0 k1 (x6_1 ++ [(⟨false, rd l1 x12_1, (⟨#[]⟩ : ByteArray), ([] : List (S52))⟩ : S52)]) l1 (l1.length : Int) (wrap64 (x12_1 + 1)) a0_0 a0_1 a0_2 a0_3 a0_4 a0_5 a0_6 a0_7 l0_8 l0_9) else (none)) = some (r1, r2) := by rw [if_pos rfl] at H; exact H
              clear H
              have H := H1
              clear H1
              by_cases c9 : x6_1.length < 2513169434916
              · rw [if_pos c9] at H
                have LMc9 := Aside0.mk c9
                clear c9
                obtain ⟨y132, hy132⟩ : ∃ y_ : List (S52), y_ = (x6_1 ++ [(⟨false, rd l1 x12_1, (⟨#[]⟩ : ByteArray), ([] : List (S52))⟩ : S52)]) := ⟨_, rfl⟩
                replace H : (laws_asValues.l0 k1 y132 l1 (l1.length : Int) (wrap64 (x12_1 + 1)) a0_0 a0_1 a0_2 a0_3 a0_4 a0_5 a0_6 a0_7 l0_8 l0_9) = some (r1, r2) := by first | (rw [hy132]; with_reducible exact H) | (have H2_ := (Option.bind_some _ _).symm.trans H; rw [hy132]; with_reducible exact H2_) | (have H2_ := (Option.bind_some _ _).symm.trans H; with_reducible exact H2_) | with_reducible exact H | (rw [hy132]; exact H) | exact H
                have Ny132 := Aside0.mk hy132
                clear hy132
                have H' := Aside0.mk H
                clear H
                have p129 : 0 ≤ (x12_1 : Int) := of_decide_eq_true (by first | (with_reducible assumption) | assumption)
                have q129 : x12_1 < (l1.length : Int) := of_decide_eq_true (by first | (with_reducible assumption) | assumption)
                obtain ⟨ad129, e129, hx129_0⟩ := Kd.at_int HR1.out x12_1 p129 q129
                cases e129
                replace hx129_0 := (HB.out.cell (World.block_lt_of_cell? w _ hx129_0)).trans hx129_0
                replace p129 := eq_true p129
                replace q129 := eq_true q129
                go_wp2_with (first | ((with_reducible refine gate_dst (N := 9) rfl ?_); refine box_event ?hg (N := 9) ?hd (cs := #[.bool false, .int .u64 0, .string (⟨#[]⟩ : ByteArray), .slice none 0 0]) (t := 52) ?hr ?_; (case hd => rfl); (case hg => rfl); (case hr => first | (go_simp; done) | (go_simp; rfl)); intro gb130 hg w10 hbox hb; have n0_ := Aside0.mk (Kd.R_below (Kd.R_elderB (by (with_reducible repeat (first | apply Kd.R_alloc | apply Kd.R_drewN | apply Kd.R_drew)); exact HO_6.out) gb130 (Nat.le_of_eq hg.symm)) hb); have n1_ := Aside0.mk (blk_below (g := gb128) (o := .cells #[.int .i64 a0_0, .int .i64 a0_1, .bool a0_2, .int .i64 a0_3, .int .i64 a0_4, .int .i64 a0_5, .string a0_6, .bool a0_7, .slice A0_8 l0_8.length c0_8, .slice A0_9 l0_9.length c0_9] 35 (0, 0)) (by (with_reducible repeat (first | refine blk_drewN ?_ _ | refine blk_drew ?_ | refine blk_alloc ?_ _)); exact BK128.out) hb); have n2_ := Aside0.mk (below_step (by repeat (first | (with_reducible first | exact HB.out | apply below_alloc | apply pw_below_drewN | apply below_drew1 | refine below_set ?_ GE128.out) | exact HB.out)) hb); have n3_ := Aside0.mk (hbox); have n4_ := Aside0.mk ((by rw [hg]; exact (below_size (by repeat (first | (with_reducible first | exact HB.out | apply below_alloc | apply pw_below_drewN | apply below_drew1 | refine below_set ?_ GE128.out) | exact HB.out))) : w.heap.size ≤ gb130)); have n5_ := Aside0.mk ((by rw [hg]; exact (below_size (by repeat (first | (with_reducible first | exact HB.out | apply below_alloc | apply pw_below_drewN | apply below_drew1 | refine below_set ?_ GE128.out) | exact HB.out))) : w.heap.size ≤ gb130)); have n6_ := Aside0.mk ((by rw [hg]; exact Nat.ne_of_lt (blk_lt (g := gb128) (o := .cells #[.int .i64 a0_0, .int .i64 a0_1, .bool a0_2, .int .i64 a0_3, .int .i64 a0_4, .int .i64 a0_5, .string a0_6, .bool a0_7, .slice A0_8 l0_8.length c0_8, .slice A0_9 l0_9.length c0_9] 35 (0, 0)) (by (with_reducible repeat (first | refine blk_drewN ?_ _ | refine blk_drew ?_ | refine blk_alloc ?_ _)); exact BK128.out)) : gb128 ≠ gb130)); have n7_ := Aside0.mk ((by rw [hg]; exact Nat.ne_of_gt (blk_lt (g := gb128) (o := .cells #[.int .i64 a0_0, .int .i64 a0_1, .bool a0_2, .int .i64 a0_3, .int .i64 a0_4, .int .i64 a0_5, .string a0_6, .bool a0_7, .slice A0_8 l0_8.length c0_8, .slice A0_9 l0_9.length c0_9] 35 (0, 0)) (by (with_reducible repeat (first | refine blk_drewN ?_ _ | refine blk_drew ?_ | refine blk_alloc ?_ _)); exact BK128.out)) : gb130 ≠ gb128)); clear HO_6; clear BK128; clear HB; have HO_6 := n0_; have BK128 := n1_; have HB := n2_; have BK130 := n3_; have GW130 := n4_; have GE130 := n5_; have NB128_130 := n6_; have NB130_128 := n7_; clear n0_ n1_ n2_ n3_ n4_ n5_ n6_ n7_; clear hb hbox hg; have hnb11 := NB130_128.out; have hnc11 := NB128_130.out; have hcz12_0 : w10.cell? ⟨gb130, 0, none⟩ = some (.bool false) := (blk_cell BK130.out 0).trans rfl; have hcz12_1 : w10.cell? ⟨gb130, 1, none⟩ = some (.int .u64 0) := (blk_cell BK130.out 1).trans rfl; have hcz12_2 : w10.cell? ⟨gb130, 2, none⟩ = some (.string (⟨#[]⟩ : ByteArray)) := (blk_cell BK130.out 2).trans rfl; have hcz12_3 : w10.cell? ⟨gb130, 3, none⟩ = some (.slice none 0 0) := (blk_cell BK130.out 3).trans rfl; have hfz12_0 := blk_frozen BK130.out 0; have hfz12_1 := blk_frozen BK130.out 1; have hfz12_2 := blk_frozen BK130.out 2; have hfz12_3 := blk_frozen BK130.out 3; have hcz13_0 : w10.cell? ⟨gb128, 0, none⟩ = some (.int .i64 a0_0) := (blk_cell BK128.out 0).trans rfl; have hcz13_1 : w10.cell? ⟨gb128, 1, none⟩ = some (.int .i64 a0_1) := (blk_cell BK128.out 1).trans rfl; have hcz13_2 : w10.cell? ⟨gb128, 2, none⟩ = some (.bool a0_2) := (blk_cell BK128.out 2).trans rfl; have hcz13_3 : w10.cell? ⟨gb128, 3, none⟩ = some (.int .i64 a0_3) := (blk_cell BK128.out 3).trans rfl; have hcz13_4 : w10.cell? ⟨gb128, 4, none⟩ = some (.int .i64 a0_4) := (blk_cell BK128.out 4).trans rfl; have hcz13_5 : w10.cell? ⟨gb128, 5, none⟩ = some (.int .i64 a0_5) := (blk_cell BK128.out 5).trans rfl; have hcz13_6 : w10.cell? ⟨gb128, 6, none⟩ = some (.string a0_6) := (blk_cell BK128.out 6).trans rfl; have hcz13_7 : w10.cell? ⟨gb128, 7, none⟩ = some (.bool a0_7) := (blk_cell BK128.out 7).trans rfl; have hcz13_8 : w10.cell? ⟨gb128, 8, none⟩ = some (.slice A0_8 l0_8.length c0_8) := (blk_cell BK128.out 8).trans rfl; have hcz13_9 : w10.cell? ⟨gb128, 9, none⟩ = some (.slice A0_9 l0_9.length c0_9) := (blk_cell BK128.out 9).trans rfl; have hfz13_0 := blk_frozen BK128.out 0; have hfz13_1 := blk_frozen BK128.out 1; have hfz13_2 := blk_frozen BK128.out 2; have hfz13_3 := blk_frozen BK128.out 3; have hfz13_4 := blk_frozen BK128.out 4; have hfz13_5 := blk_frozen BK128.out 5; have hfz13_6 := blk_frozen BK128.out 6; have hfz13_7 := blk_frozen BK128.out 7; have hfz13_8 := blk_frozen BK128.out 8; have hfz13_9 := blk_frozen BK128.out 9) | ((with_reducible refine gate_callee (f := 16) rfl ?_); refine goesL_ (some 20) rfl rfl Tryz.func16 (by kernel_rfl) rfl #[.agg #[.int .i64 a0_0, .int .i64 a0_1, .bool a0_2, .int .i64 a0_3, .int .i64 a0_4, .int .i64 a0_5, .string a0_6, .bool a0_7, .slice A0_8 l0_8.length c0_8, .slice A0_9 l0_9.length c0_9], .agg #[.bool false, .int .u64 (rd l1 x12_1), .string (⟨#[]⟩ : ByteArray), .slice none 0 0]] rfl (by (try simp only [List.map_toArray, List.map_cons, List.map_nil]); first | done | rfl | (simp only [List.length_drop, List.length_take]; rfl)) ?_; (refine (spec_OneFits.calls k1 a0_0 a0_1 a0_2 a0_3 a0_4 a0_5 a0_6 a0_7 _ _ l0_8 _ _ l0_9 false (rd l1 x12_1) (⟨#[]⟩ : ByteArray) _ _ ([] : List (S52)) true _ ?side1 ?side2 ?side3 ?side4 ?side5 ?side6 A7.out).mono ?_); (case side1 => exact Kd.C_below HR0_8.out (by repeat (first | (with_reducible first | exact HB.out | apply below_alloc | apply pw_below_drewN | apply below_drew1 | refine below_set ?_ GE128.out | refine below_set ?_ GE130.out) | exact HB.out))); (case side2 => exact HC0_8.out); (case side3 => exact Kd.C_below HR0_9.out (by repeat (first | (with_reducible first | exact HB.out | apply below_alloc | apply pw_below_drewN | apply below_drew1 | refine below_set ?_ GE128.out | refine below_set ?_ GE130.out) | exact HB.out))); (case side4 => exact HC0_9.out); (case side5 => exact Kd.C_nil _ _); (case side6 => exact Nat.le_refl _); rintro e w14 ⟨rfl, hb⟩; refine ⟨_, rfl, ?_⟩; have n0_ := Aside0.mk (Kd.R_below (by (with_reducible repeat (first | apply Kd.R_alloc | apply Kd.R_drewN | apply Kd.R_drew)); exact (Kd.R_mono (Kd.R_far (p := ⟨gb130, 3, none⟩) (Kd.R_far (p := ⟨gb130, 2, none⟩) (Kd.R_far (p := ⟨gb130, 1, none⟩) (Kd.R_far (p := ⟨gb130, 0, none⟩) (Kd.R_mono HO_6.out (fun k_ hk => (⟨hk, hk.2⟩ : _ ∧ k_ ≠ gb130))) (fun _ hk => hk.2) (.bool false)) (fun _ hk => hk.2) (.int .u64 (rd l1 x12_1))) (fun _ hk => hk.2) (.string (⟨#[]⟩ : ByteArray))) (fun _ hk => hk.2) (.slice none 0 0)) (fun _ h_ => h_.1))) hb); have n1_ := Aside0.mk (blk_below (g := gb128) (o := .cells #[.int .i64 a0_0, .int .i64 a0_1, .bool a0_2, .int .i64 a0_3, .int .i64 a0_4, .int .i64 a0_5, .string a0_6, .bool a0_7, .slice A0_8 l0_8.length c0_8, .slice A0_9 l0_9.length c0_9] 35 (0, 0)) (by (with_reducible repeat (first | refine blk_drewN ?_ _ | refine blk_drew ?_ | refine blk_alloc ?_ _)); refine blk_far ?_ NB128_130.out _; (with_reducible repeat (first | refine blk_drewN ?_ _ | refine blk_drew ?_ | refine blk_alloc ?_ _)); refine blk_far ?_ NB128_130.out _; (with_reducible repeat (first | refine blk_drewN ?_ _ | refine blk_drew ?_ | refine blk_alloc ?_ _)); refine blk_far ?_ NB128_130.out _; (with_reducible repeat (first | refine blk_drewN ?_ _ | refine blk_drew ?_ | refine blk_alloc ?_ _)); refine blk_far ?_ NB128_130.out _; (with_reducible repeat (first | refine blk_drewN ?_ _ | refine blk_drew ?_ | refine blk_alloc ?_ _)); exact BK128.out) hb); have n2_ := Aside0.mk (blk_below (g := gb130) (o := .cells #[.bool false, .int .u64 (rd l1 x12_1), .string (⟨#[]⟩ : ByteArray), .slice none 0 0] 52 (0, 0)) (by (with_reducible repeat (first | refine blk_drewN ?_ _ | refine blk_drew ?_ | refine blk_alloc ?_ _)); refine blk_put (cs := #[.bool false, .int .u64 (rd l1 x12_1), .string (⟨#[]⟩ : ByteArray), .slice none 0 0]) ?_ 3 _ rfl; (with_reducible repeat (first | refine blk_drewN ?_ _ | refine blk_drew ?_ | refine blk_alloc ?_ _)); refine blk_put (cs := #[.bool false, .int .u64 (rd l1 x12_1), .string (⟨#[]⟩ : ByteArray), .slice none 0 0]) ?_ 2 _ rfl; (with_reducible repeat (first | refine blk_drewN ?_ _ | refine blk_drew ?_ | refine blk_alloc ?_ _)); refine blk_put (cs := #[.bool false, .int .u64 0, .string (⟨#[]⟩ : ByteArray), .slice none 0 0]) ?_ 1 _ rfl; (with_reducible repeat (first | refine blk_drewN ?_ _ | refine blk_drew ?_ | refine blk_alloc ?_ _)); refine blk_put (cs := #[.bool false, .int .u64 0, .string (⟨#[]⟩ : ByteArray), .slice none 0 0]) ?_ 0 _ rfl; (with_reducible repeat (first | refine blk_drewN ?_ _ | refine blk_drew ?_ | refine blk_alloc ?_ _)); exact BK130.out) hb); have n3_ := Aside0.mk (below_step (by repeat (first | (with_reducible first | exact HB.out | apply below_alloc | apply pw_below_drewN | apply below_drew1 | refine below_set ?_ GE128.out | refine below_set ?_ GE130.out) | exact HB.out)) hb); clear HO_6; clear BK128; clear BK130; clear HB; have HO_6 := n0_; have BK128 := n1_; have BK130 := n2_; have HB := n3_; clear n0_ n1_ n2_ n3_; (try clear hb); (try clear hb2); (try clear hk); (try clear hi); have hcz15_0 : w14.cell? ⟨gb130, 0, none⟩ = some (.bool false) := (blk_cell BK130.out 0).trans rfl; have hcz15_1 : w14.cell? ⟨gb130, 1, none⟩ = some (.int .u64 (rd l1 x12_1)) := (blk_cell BK130.out 1).trans rfl; have hcz15_2 : w14.cell? ⟨gb130, 2, none⟩ = some (.string (⟨#[]⟩ : ByteArray)) := (blk_cell BK130.out 2).trans rfl; have hcz15_3 : w14.cell? ⟨gb130, 3, none⟩ = some (.slice none 0 0) := (blk_cell BK130.out 3).trans rfl; have hfz15_0 := blk_frozen BK130.out 0; have hfz15_1 := blk_frozen BK130.out 1; have hfz15_2 := blk_frozen BK130.out 2; have hfz15_3 := blk_frozen BK130.out 3) | ((with_reducible refine gate_builtin (b := .append) (xs := #[.tmp 22, .tmp 24]) rfl ?_); at_builtin; refine Kd.R_append k52 (w0 := w) w.heap.size rfl (.tmp 22) (.tmp 24) 29 52 (.agg #[(.bool false), (.int .u64 0), (.string ⟨#[]⟩), (.slice none 0 0)]) 56 rfl Tryz.underlying29 info52 rfl (by decide) (by omega) u6 x6_1 (⟨false, rd l1 x12_1, (⟨#[]⟩ : ByteArray), ([] : List (S52))⟩ : S52) [.bool false, .int .u64 (rd l1 x12_1), .string (⟨#[]⟩ : ByteArray), .slice none 0 0] (fun k_ => k_ ≠ gb130) (fun k_ => ((fun k_ => k_ ≠ gb130)) k_ ∧ some k_ ≠ (u6 : Value).ownBlock) rfl rfl ?aP (fun _ hk => hk) ?aF ?aO ?aB ?aS ?aL ?_; (case aP => exact k52_mkM _ _ _ (⟨false, rd l1 x12_1, (⟨#[]⟩ : ByteArray), ([] : List (S52))⟩ : S52) (Kd.R_nil _ _ _ _ _)); (case aB => exact (by repeat (first | (with_reducible first | exact HB.out | apply below_alloc | apply pw_below_drewN | apply below_drew1 | refine below_set ?_ GE128.out | refine below_set ?_ GE130.out) | exact HB.out))); (case aF => exact (fun k_ hk => Kd.freshB (g := gb130) (o := .cells #[.bool false, .int .u64 (rd l1 x12_1), .string (⟨#[]⟩ : ByteArray), .slice none 0 0] 52 (0, 0)) (by (with_reducible repeat (first | refine blk_drewN ?_ _ | refine blk_drew ?_ | refine blk_alloc ?_ _)); exact BK130.out) k_ hk)); (case aO => exact (by (with_reducible repeat (first | apply Kd.R_alloc | apply Kd.R_drewN | apply Kd.R_drew)); exact Kd.R_mono HO_6.out (fun _ hk => hk.2))); (case aS => exact (below_size (by repeat (first | (with_reducible first | exact HB.out | apply below_alloc | apply pw_below_drewN | apply below_drew1 | refine below_set ?_ GE128.out | refine below_set ?_ GE130.out) | exact HB.out)))); (case aL => have := LMc9.out; omega); intro v133 w16 ho hb hg hat; rw [← Ny132.out] at ho; have n0_ := Aside0.mk (blk_grown (g := gb128) (o := .cells #[.int .i64 a0_0, .int .i64 a0_1, .bool a0_2, .int .i64 a0_3, .int .i64 a0_4, .int .i64 a0_5, .string a0_6, .bool a0_7, .slice A0_8 l0_8.length c0_8, .slice A0_9 l0_9.length c0_9] 35 (0, 0)) (by (with_reducible repeat (first | refine blk_drewN ?_ _ | refine blk_drew ?_ | refine blk_alloc ?_ _)); exact BK128.out) hg (Kd.R_ne HO_6.out BK128.out (by decide))); have n1_ := Aside0.mk (blk_grown (g := gb130) (o := .cells #[.bool false, .int .u64 (rd l1 x12_1), .string (⟨#[]⟩ : ByteArray), .slice none 0 0] 52 (0, 0)) (by (with_reducible repeat (first | refine blk_drewN ?_ _ | refine blk_drew ?_ | refine blk_alloc ?_ _)); exact BK130.out) hg (Kd.R_away HO_6.out (fun _ hk => hk.2))); have n2_ := Aside0.mk (hb); have n3_ := Aside0.mk (ho); clear BK128; clear BK130; clear HB; clear HO_6; have BK128 := n0_; have BK130 := n1_; have HB := n2_; have HO134 := n3_; clear n0_ n1_ n2_ n3_; clear ho hb hg hat))
                go_roundg k1
                case measure => have := HK1.out; omega
                case rel => exact ⟨(y132), (wrap64 (x12_1 + 1)), (by first | rfl | (simp; done) | (simp [*]; done)), H', ⟨by have := HK1.out; omega⟩, ⟨by (with_reducible repeat (first | apply Kd.R_alloc | apply Kd.R_drewN | apply Kd.R_drew)); exact Kd.R_mono HO134.out (fun _ hk => trivial)⟩, ⟨by (with_reducible repeat (first | refine blk_drewN ?_ _ | refine blk_drew ?_ | refine blk_alloc ?_ _)); exact BK128.out⟩, ⟨by repeat (first | (with_reducible first | exact HB.out | apply below_alloc | apply pw_below_drewN | apply below_drew1 | refine below_set ?_ GE128.out | refine below_set ?_ GE130.out) | exact HB.out)⟩⟩
              · rw [if_neg c9] at H
                exact absurd H (by simp)
            · replace c8 := Bool.eq_false_iff.mpr c8
              subst c8
              have H1 : (some (([] : List (S52)), false)) = some (r1, r2) := by rw [if_neg (show ¬ (false = true) by decide)] at H; exact H
              clear H
              have H := H1
              clear H1
              simp only [Option.some.injEq, Prod.mk.injEq] at H
              obtain ⟨rfl, rfl⟩ := H
              have p129 : 0 ≤ (x12_1 : Int) := of_decide_eq_true (by first | (with_reducible assumption) | assumption)
              have q129 : x12_1 < (l1.length : Int) := of_decide_eq_true (by first | (with_reducible assumption) | assumption)
              obtain ⟨ad129, e129, hx129_0⟩ := Kd.at_int HR1.out x12_1 p129 q129
              cases e129
              replace hx129_0 := (HB.out.cell (World.block_lt_of_cell? w _ hx129_0)).trans hx129_0
              replace p129 := eq_true p129
              replace q129 := eq_true q129
              go_wp2_with (first | ((with_reducible refine gate_dst (N := 9) rfl ?_); refine box_event ?hg (N := 9) ?hd (cs := #[.bool false, .int .u64 0, .string (⟨#[]⟩ : ByteArray), .slice none 0 0]) (t := 52) ?hr ?_; (case hd => rfl); (case hg => rfl); (case hr => first | (go_simp; done) | (go_simp; rfl)); intro gb130 hg w17 hbox hb; have n0_ := Aside0.mk (Kd.R_below (Kd.R_elderB (by (with_reducible repeat (first | apply Kd.R_alloc | apply Kd.R_drewN | apply Kd.R_drew)); exact HO_6.out) gb130 (Nat.le_of_eq hg.symm)) hb); have n1_ := Aside0.mk (blk_below (g := gb128) (o := .cells #[.int .i64 a0_0, .int .i64 a0_1, .bool a0_2, .int .i64 a0_3, .int .i64 a0_4, .int .i64 a0_5, .string a0_6, .bool a0_7, .slice A0_8 l0_8.length c0_8, .slice A0_9 l0_9.length c0_9] 35 (0, 0)) (by (with_reducible repeat (first | refine blk_drewN ?_ _ | refine blk_drew ?_ | refine blk_alloc ?_ _)); exact BK128.out) hb); have n2_ := Aside0.mk (below_step (by repeat (first | (with_reducible first | exact HB.out | apply below_alloc | apply pw_below_drewN | apply below_drew1 | refine below_set ?_ GE128.out) | exact HB.out)) hb); have n3_ := Aside0.mk (hbox); have n4_ := Aside0.mk ((by rw [hg]; exact (below_size (by repeat (first | (with_reducible first | exact HB.out | apply below_alloc | apply pw_below_drewN | apply below_drew1 | refine below_set ?_ GE128.out) | exact HB.out))) : w.heap.size ≤ gb130)); have n5_ := Aside0.mk ((by rw [hg]; exact (below_size (by repeat (first | (with_reducible first | exact HB.out | apply below_alloc | apply pw_below_drewN | apply below_drew1 | refine below_set ?_ GE128.out) | exact HB.out))) : w.heap.size ≤ gb130)); have n6_ := Aside0.mk ((by rw [hg]; exact Nat.ne_of_lt (blk_lt (g := gb128) (o := .cells #[.int .i64 a0_0, .int .i64 a0_1, .bool a0_2, .int .i64 a0_3, .int .i64 a0_4, .int .i64 a0_5, .string a0_6, .bool a0_7, .slice A0_8 l0_8.length c0_8, .slice A0_9 l0_9.length c0_9] 35 (0, 0)) (by (with_reducible repeat (first | refine blk_drewN ?_ _ | refine blk_drew ?_ | refine blk_alloc ?_ _)); exact BK128.out)) : gb128 ≠ gb130)); have n7_ := Aside0.mk ((by rw [hg]; exact Nat.ne_of_gt (blk_lt (g := gb128) (o := .cells #[.int .i64 a0_0, .int .i64 a0_1, .bool a0_2, .int .i64 a0_3, .int .i64 a0_4, .int .i64 a0_5, .string a0_6, .bool a0_7, .slice A0_8 l0_8.length c0_8, .slice A0_9 l0_9.length c0_9] 35 (0, 0)) (by (with_reducible repeat (first | refine blk_drewN ?_ _ | refine blk_drew ?_ | refine blk_alloc ?_ _)); exact BK128.out)) : gb130 ≠ gb128)); clear HO_6; clear BK128; clear HB; have HO_6 := n0_; have BK128 := n1_; have HB := n2_; have BK130 := n3_; have GW130 := n4_; have GE130 := n5_; have NB128_130 := n6_; have NB130_128 := n7_; clear n0_ n1_ n2_ n3_ n4_ n5_ n6_ n7_; clear hb hbox hg; have hnb18 := NB130_128.out; have hnc18 := NB128_130.out; have hcz19_0 : w17.cell? ⟨gb130, 0, none⟩ = some (.bool false) := (blk_cell BK130.out 0).trans rfl; have hcz19_1 : w17.cell? ⟨gb130, 1, none⟩ = some (.int .u64 0) := (blk_cell BK130.out 1).trans rfl; have hcz19_2 : w17.cell? ⟨gb130, 2, none⟩ = some (.string (⟨#[]⟩ : ByteArray)) := (blk_cell BK130.out 2).trans rfl; have hcz19_3 : w17.cell? ⟨gb130, 3, none⟩ = some (.slice none 0 0) := (blk_cell BK130.out 3).trans rfl; have hfz19_0 := blk_frozen BK130.out 0; have hfz19_1 := blk_frozen BK130.out 1; have hfz19_2 := blk_frozen BK130.out 2; have hfz19_3 := blk_frozen BK130.out 3; have hcz20_0 : w17.cell? ⟨gb128, 0, none⟩ = some (.int .i64 a0_0) := (blk_cell BK128.out 0).trans rfl; have hcz20_1 : w17.cell? ⟨gb128, 1, none⟩ = some (.int .i64 a0_1) := (blk_cell BK128.out 1).trans rfl; have hcz20_2 : w17.cell? ⟨gb128, 2, none⟩ = some (.bool a0_2) := (blk_cell BK128.out 2).trans rfl; have hcz20_3 : w17.cell? ⟨gb128, 3, none⟩ = some (.int .i64 a0_3) := (blk_cell BK128.out 3).trans rfl; have hcz20_4 : w17.cell? ⟨gb128, 4, none⟩ = some (.int .i64 a0_4) := (blk_cell BK128.out 4).trans rfl; have hcz20_5 : w17.cell? ⟨gb128, 5, none⟩ = some (.int .i64 a0_5) := (blk_cell BK128.out 5).trans rfl; have hcz20_6 : w17.cell? ⟨gb128, 6, none⟩ = some (.string a0_6) := (blk_cell BK128.out 6).trans rfl; have hcz20_7 : w17.cell? ⟨gb128, 7, none⟩ = some (.bool a0_7) := (blk_cell BK128.out 7).trans rfl; have hcz20_8 : w17.cell? ⟨gb128, 8, none⟩ = some (.slice A0_8 l0_8.length c0_8) := (blk_cell BK128.out 8).trans rfl; have hcz20_9 : w17.cell? ⟨gb128, 9, none⟩ = some (.slice A0_9 l0_9.length c0_9) := (blk_cell BK128.out 9).trans rfl; have hfz20_0 := blk_frozen BK128.out 0; have hfz20_1 := blk_frozen BK128.out 1; have hfz20_2 := blk_frozen BK128.out 2; have hfz20_3 := blk_frozen BK128.out 3; have hfz20_4 := blk_frozen BK128.out 4; have hfz20_5 := blk_frozen BK128.out 5; have hfz20_6 := blk_frozen BK128.out 6; have hfz20_7 := blk_frozen BK128.out 7; have hfz20_8 := blk_frozen BK128.out 8; have hfz20_9 := blk_frozen BK128.out 9) | ((with_reducible refine gate_callee (f := 16) rfl ?_); refine goesL_ (some 20) rfl rfl Tryz.func16 (by kernel_rfl) rfl #[.agg #[.int .i64 a0_0, .int .i64 a0_1, .bool a0_2, .int .i64 a0_3, .int .i64 a0_4, .int .i64 a0_5, .string a0_6, .bool a0_7, .slice A0_8 l0_8.length c0_8, .slice A0_9 l0_9.length c0_9], .agg #[.bool false, .int .u64 (rd l1 x12_1), .string (⟨#[]⟩ : ByteArray), .slice none 0 0]] rfl (by (try simp only [List.map_toArray, List.map_cons, List.map_nil]); first | done | rfl | (simp only [List.length_drop, List.length_take]; rfl)) ?_; (refine (spec_OneFits.calls k1 a0_0 a0_1 a0_2 a0_3 a0_4 a0_5 a0_6 a0_7 _ _ l0_8 _ _ l0_9 false (rd l1 x12_1) (⟨#[]⟩ : ByteArray) _ _ ([] : List (S52)) false _ ?side1 ?side2 ?side3 ?side4 ?side5 ?side6 A7.out).mono ?_); (case side1 => exact Kd.C_below HR0_8.out (by repeat (first | (with_reducible first | exact HB.out | apply below_alloc | apply pw_below_drewN | apply below_drew1 | refine below_set ?_ GE128.out | refine below_set ?_ GE130.out) | exact HB.out))); (case side2 => exact HC0_8.out); (case side3 => exact Kd.C_below HR0_9.out (by repeat (first | (with_reducible first | exact HB.out | apply below_alloc | apply pw_below_drewN | apply below_drew1 | refine below_set ?_ GE128.out | refine below_set ?_ GE130.out) | exact HB.out))); (case side4 => exact HC0_9.out); (case side5 => exact Kd.C_nil _ _); (case side6 => exact Nat.le_refl _); rintro e w21 ⟨rfl, hb⟩; refine ⟨_, rfl, ?_⟩; have n0_ := Aside0.mk (Kd.R_below (by (with_reducible repeat (first | apply Kd.R_alloc | apply Kd.R_drewN | apply Kd.R_drew)); exact (Kd.R_mono (Kd.R_far (p := ⟨gb130, 3, none⟩) (Kd.R_far (p := ⟨gb130, 2, none⟩) (Kd.R_far (p := ⟨gb130, 1, none⟩) (Kd.R_far (p := ⟨gb130, 0, none⟩) (Kd.R_mono HO_6.out (fun k_ hk => (⟨hk, hk.2⟩ : _ ∧ k_ ≠ gb130))) (fun _ hk => hk.2) (.bool false)) (fun _ hk => hk.2) (.int .u64 (rd l1 x12_1))) (fun _ hk => hk.2) (.string (⟨#[]⟩ : ByteArray))) (fun _ hk => hk.2) (.slice none 0 0)) (fun _ h_ => h_.1))) hb); have n1_ := Aside0.mk (blk_below (g := gb128) (o := .cells #[.int .i64 a0_0, .int .i64 a0_1, .bool a0_2, .int .i64 a0_3, .int .i64 a0_4, .int .i64 a0_5, .string a0_6, .bool a0_7, .slice A0_8 l0_8.length c0_8, .slice A0_9 l0_9.length c0_9] 35 (0, 0)) (by (with_reducible repeat (first | refine blk_drewN ?_ _ | refine blk_drew ?_ | refine blk_alloc ?_ _)); refine blk_far ?_ NB128_130.out _; (with_reducible repeat (first | refine blk_drewN ?_ _ | refine blk_drew ?_ | refine blk_alloc ?_ _)); refine blk_far ?_ NB128_130.out _; (with_reducible repeat (first | refine blk_drewN ?_ _ | refine blk_drew ?_ | refine blk_alloc ?_ _)); refine blk_far ?_ NB128_130.out _; (with_reducible repeat (first | refine blk_drewN ?_ _ | refine blk_drew ?_ | refine blk_alloc ?_ _)); refine blk_far ?_ NB128_130.out _; (with_reducible repeat (first | refine blk_drewN ?_ _ | refine blk_drew ?_ | refine blk_alloc ?_ _)); exact BK128.out) hb); have n2_ := Aside0.mk (blk_below (g := gb130) (o := .cells #[.bool false, .int .u64 (rd l1 x12_1), .string (⟨#[]⟩ : ByteArray), .slice none 0 0] 52 (0, 0)) (by (with_reducible repeat (first | refine blk_drewN ?_ _ | refine blk_drew ?_ | refine blk_alloc ?_ _)); refine blk_put (cs := #[.bool false, .int .u64 (rd l1 x12_1), .string (⟨#[]⟩ : ByteArray), .slice none 0 0]) ?_ 3 _ rfl; (with_reducible repeat (first | refine blk_drewN ?_ _ | refine blk_drew ?_ | refine blk_alloc ?_ _)); refine blk_put (cs := #[.bool false, .int .u64 (rd l1 x12_1), .string (⟨#[]⟩ : ByteArray), .slice none 0 0]) ?_ 2 _ rfl; (with_reducible repeat (first | refine blk_drewN ?_ _ | refine blk_drew ?_ | refine blk_alloc ?_ _)); refine blk_put (cs := #[.bool false, .int .u64 0, .string (⟨#[]⟩ : ByteArray), .slice none 0 0]) ?_ 1 _ rfl; (with_reducible repeat (first | refine blk_drewN ?_ _ | refine blk_drew ?_ | refine blk_alloc ?_ _)); refine blk_put (cs := #[.bool false, .int .u64 0, .string (⟨#[]⟩ : ByteArray), .slice none 0 0]) ?_ 0 _ rfl; (with_reducible repeat (first | refine blk_drewN ?_ _ | refine blk_drew ?_ | refine blk_alloc ?_ _)); exact BK130.out) hb); have n3_ := Aside0.mk (below_step (by repeat (first | (with_reducible first | exact HB.out | apply below_alloc | apply pw_below_drewN | apply below_drew1 | refine below_set ?_ GE128.out | refine below_set ?_ GE130.out) | exact HB.out)) hb); clear HO_6; clear BK128; clear BK130; clear HB; have HO_6 := n0_; have BK128 := n1_; have BK130 := n2_; have HB := n3_; clear n0_ n1_ n2_ n3_; (try clear hb); (try clear hb2); (try clear hk); (try clear hi)))
              go_ret2
              exact ⟨_, by first | rfl | (simp [errW_none, errW_some] <;> rfl) | (simp [*, errW_none, errW_some] <;> rfl), by first | exact Kd.R_nil _ _ _ _ _ | exact Kd.N_nil _ _ _ _ _ | exact Kd.V_nil _ _ _ _ _ | exact Kd.Q_nil _ _ _ _ _ | exact Kd.S_nil _ _ _ _ _, by repeat (first | (with_reducible first | exact HB.out | apply below_alloc | apply pw_below_drewN | apply below_drew1 | refine below_set ?_ GE128.out | refine below_set ?_ GE130.out) | exact HB.out)⟩
          · rw [if_neg c6] at H
            exact absurd H (by simp)
        · rw [if_neg c5] at H
          exact absurd H (by simp)
      · rw [if_neg c4] at H
        have c4b0 : decide (x12_1 < (l1.length : Int)) = false := decide_eq_false c4
        clear c4
        simp only [Option.some.injEq, Prod.mk.injEq] at H
        obtain ⟨rfl, rfl⟩ := H
        obtain ⟨Ao22, co22, eo22⟩ := Kd.R_slice HO_6.out
        subst eo22
        go_wp2
        go_ret2
        exact ⟨_, by first | rfl | (simp [errW_none, errW_some] <;> rfl) | (simp [*, errW_none, errW_some] <;> rfl), by (with_reducible repeat (first | apply Kd.R_alloc | apply Kd.R_drewN | apply Kd.R_drew)); exact HO_6.out, by repeat (first | (with_reducible first | exact HB.out | apply below_alloc | apply pw_below_drewN | apply below_drew1 | refine below_set ?_ GE128.out) | exact HB.out)⟩

/-! ### laws_room: function 7 -/
def laws_room.f (l0 : List Int) (a1 : Int) (a2 : Int) : Option (Bool) := if a1 ≥ 0 then (if a1 ≤ 7 then (if a2 ≤ 300 then (if (l0.length : Int) ≤ 100 then (some (decide ((wrap64 (a1 + a2)) ≤ (wrap64 (8 * (l0.length : Int)))))) else (some false)) else (some false)) else (some false)) else (some false)
set_option maxHeartbeats 8000000 in
set_option maxRecDepth 100000 in
theorem laws_room.calls (A0 : Option Addr) (c0 : Nat) (l0 : List Int) (a1 : Int) (a2 : Int) (r : Bool) (w : World) (hr0 : Kd.C (Kd.int .u8) w A0 l0.length l0) (hc0 : l0.length ≤ c0) (h : laws_room.f l0 a1 a2 = some r) :
    Calls Tryz.prog 7 #[.slice A0 l0.length c0, .int .i64 a1, .int .i64 a2] w fun e w' => e = .returned (.bool r) ∧ Drawn0 w w' := by
  have HR0 := Aside0.mk hr0
  have HC0 := Aside0.mk hc0
  clear hr0 hc0
  have H : (if a1 ≥ 0 then (if a1 ≤ 7 then (if a2 ≤ 300 then (if (l0.length : Int) ≤ 100 then (some (decide ((wrap64 (a1 + a2)) ≤ (wrap64 (8 * (l0.length : Int)))))) else (some false)) else (some false)) else (some false)) else (some false)) = some r := h
  clear h
  by_cases c4 : a1 ≥ 0
  · rw [if_pos c4] at H
    have c4b0 : decide (0 ≤ a1) = true := decide_eq_true c4
    clear c4
    by_cases c5 : a1 ≤ 7
    · rw [if_pos c5] at H
      have c5b0 : decide (a1 ≤ 7) = true := decide_eq_true c5
      clear c5
      by_cases c6 : a2 ≤ 300
      · rw [if_pos c6] at H
        have c6b0 : decide (a2 ≤ 300) = true := decide_eq_true c6
        clear c6
        by_cases c7 : (l0.length : Int) ≤ 100
        · rw [if_pos c7] at H
          have c7b0 : decide ((l0.length : Int) ≤ 100) = true := decide_eq_true c7
          have c7b1 : decide (l0.length ≤ 100) = true := decide_eq_true (by omega)
          clear c7
          obtain rfl := Option.some.inj H
          go_enter Tryz.func7, Tryz.ntmps7
          go_wp2
          go_ret
          exact ⟨by first | rfl | (simp; done) | (simp [*]; done), by repeat (first | exact Drawn0.refl _ | apply Drawn0.step)⟩
        · rw [if_neg c7] at H
          have c7b0 : decide ((l0.length : Int) ≤ 100) = false := decide_eq_false c7
          have c7b1 : decide (l0.length ≤ 100) = false := decide_eq_false (by omega)
          clear c7
          obtain rfl := Option.some.inj H
          go_enter Tryz.func7, Tryz.ntmps7
          go_wp2
          go_ret
          exact ⟨by first | rfl | (simp; done) | (simp [*]; done), by repeat (first | exact Drawn0.refl _ | apply Drawn0.step)⟩
      · rw [if_neg c6] at H
        have c6b0 : decide (a2 ≤ 300) = false := decide_eq_false c6
        clear c6
        obtain rfl := Option.some.inj H
        go_enter Tryz.func7, Tryz.ntmps7
        go_wp2
        go_ret
        exact ⟨by first | rfl | (simp; done) | (simp [*]; done), by repeat (first | exact Drawn0.refl _ | apply Drawn0.step)⟩
    · rw [if_neg c5] at H
      have c5b0 : decide (a1 ≤ 7) = false := decide_eq_false c5
      clear c5
      obtain rfl := Option.some.inj H
      go_enter Tryz.func7, Tryz.ntmps7
      go_wp2
      go_ret
      exact ⟨by first | rfl | (simp; done) | (simp [*]; done), by repeat (first | exact Drawn0.refl _ | apply Drawn0.step)⟩
  · rw [if_neg c4] at H
    have c4b0 : decide (0 ≤ a1) = false := decide_eq_false c4
    clear c4
    obtain rfl := Option.some.inj H
    go_enter Tryz.func7, Tryz.ntmps7
    go_wp2
    go_ret
    exact ⟨by first | rfl | (simp; done) | (simp [*]; done), by repeat (first | exact Drawn0.refl _ | apply Drawn0.step)⟩

/-! ### spec_Bit: function 17 -/
def spec_Bit.f (l0 : List Int) (a1 : Int) : Option (Bool) := if 0 ≤ (wrap64 (Int.tdiv a1 8)) then (if (wrap64 (Int.tdiv a1 8)) < (l0.length : Int) then (if 0 ≤ (Int.tmod a1 8) then (some ((Go.bits .and .u8 (shr .u8 (rd l0 (wrap64 (Int.tdiv a1 8))) (Int.tmod a1 8)) 1) == 1)) else (none)) else (none)) else (none)
set_option maxHeartbeats 8000000 in
set_option maxRecDepth 100000 in
theorem spec_Bit.calls (A0 : Option Addr) (c0 : Nat) (l0 : List Int) (a1 : Int) (r : Bool) (w : World) (hr0 : Kd.C (Kd.int .u8) w A0 l0.length l0) (hc0 : l0.length ≤ c0) (h : spec_Bit.f l0 a1 = some r) :
    Calls Tryz.prog 17 #[.slice A0 l0.length c0, .int .i64 a1] w fun e w' => e = .returned (.bool r) ∧ Drawn0 w w' := by
  have HR0 := Aside0.mk hr0
  have HC0 := Aside0.mk hc0
  clear hr0 hc0
  have H : (if 0 ≤ (wrap64 (Int.tdiv a1 8)) then (if (wrap64 (Int.tdiv a1 8)) < (l0.length : Int) then (if 0 ≤ (Int.tmod a1 8) then (some ((Go.bits .and .u8 (shr .u8 (rd l0 (wrap64 (Int.tdiv a1 8))) (Int.tmod a1 8)) 1) == 1)) else (none)) else (none)) else (none)) = some r := h
  clear h
  obtain ⟨ji3, hji3⟩ : ∃ j_ : Int, (wrap64 (Int.tdiv a1 8)) = j_ := ⟨_, rfl⟩
  replace H : (if 0 ≤ (ji3) then (if (ji3) < (l0.length : Int) then (if 0 ≤ (Int.tmod a1 8) then (some ((Go.bits .and .u8 (shr .u8 (rd l0 (ji3)) (Int.tmod a1 8)) 1) == 1)) else (none)) else (none)) else (none)) = some r := by first | (rw [hji3] at H; exact H) | (simp only [hji3] at H ⊢; exact H)
  have hji3w : (IntKind.i64.wrap (Int.tdiv a1 8)) = ji3 := (i64_w _).trans hji3
  by_cases c4 : 0 ≤ (ji3)
  · rw [if_pos c4] at H
    have c4b0 : decide (0 ≤ (ji3)) = true := decide_eq_true c4
    clear c4
    by_cases c5 : (ji3) < (l0.length : Int)
    · rw [if_pos c5] at H
      have c5b0 : decide ((ji3) < (l0.length : Int)) = true := decide_eq_true c5
      clear c5
      obtain ⟨ji6, hji6⟩ : ∃ j_ : Int, (Int.tmod a1 8) = j_ := ⟨_, rfl⟩
      replace H : (if 0 ≤ (ji6) then (some ((Go.bits .and .u8 (shr .u8 (rd l0 (ji3)) (ji6)) 1) == 1)) else (none)) = some r := by first | (rw [hji6] at H; exact H) | (simp only [hji6] at H ⊢; exact H)
      by_cases c7 : 0 ≤ (ji6)
      · rw [if_pos c7] at H
        have c7b0 := eq_true c7
        have c7b1 : decide (0 ≤ (ji6)) = true := decide_eq_true c7
        clear c7
        obtain ⟨ji8, hji8⟩ : ∃ j_ : Int, (shr .u8 (rd l0 (ji3)) (ji6)) = j_ := ⟨_, rfl⟩
        replace H : (some ((Go.bits .and .u8 (ji8) 1) == 1)) = some r := by first | (rw [hji8] at H; exact H) | (simp only [hji8] at H ⊢; exact H)
        have hji8_ : ((rd l0 (ji3)) / 2 ^ min (ji6).toNat 8) = ji8 := hji8
        have hji8z : (ji6) ≤ 8 → ((rd l0 (ji3)) / 2 ^ (ji6).toNat) = ji8 := shr_small hji8
        obtain rfl := Option.some.inj H
        have p135 : 0 ≤ ((ji3) : Int) := of_decide_eq_true (by first | (with_reducible assumption) | assumption)
        have q135 : (ji3) < (l0.length : Int) := of_decide_eq_true (by first | (with_reducible assumption) | assumption)
        obtain ⟨ad135, e135, hx135_0⟩ := Kd.at_int HR0.out (ji3) p135 q135
        cases e135
        replace p135 := eq_true p135
        replace q135 := eq_true q135
        go_enter Tryz.func17, Tryz.ntmps17
        go_wp2
        go_ret
        exact ⟨by first | rfl | (simp; done) | (simp only [← hji3, ← hji6, ← hji8] <;> (first | rfl | simp)) | (simp [*]; done), by repeat (first | exact Drawn0.refl _ | apply Drawn0.step)⟩
      · rw [if_neg c7] at H
        exact absurd H (by simp)
    · rw [if_neg c5] at H
      exact absurd H (by simp)
  · rw [if_neg c4] at H
    exact absurd H (by simp)

/-! ### laws_bitsDue: function 8 -/
mutual
def laws_bitsDue.l0 : Nat → List Int → List Int → Int → List Bool → Int → Option (Bool)
  | 0, _, _, _, _, _ => none
  | k + 1, x0, x1, x2, x3, x9 => if x9 < x2 then ((spec_Bit.f x0 x9).bind fun t136 => ((spec_Bit.f x1 x9).bind fun t137 => (if (t136 != t137) = true then (some false) else (laws_bitsDue.l0 k x0 x1 x2 x3 (wrap64 (x9 + 1)))))) else (laws_bitsDue.l1 k x1 x2 x3 (x3.length : Int) 0)
def laws_bitsDue.l1 : Nat → List Int → Int → List Bool → Int → Int → Option (Bool)
  | 0, _, _, _, _, _ => none
  | k + 1, x1, x2, x29, x30, x31 => if x31 < x30 then (if 0 ≤ x31 then (if x31 < (x29.length : Int) then ((spec_Bit.f x1 (wrap64 (x2 + x31))).bind fun t139 => (if (t139 != (rdOf false x29 x31)) = true then (some false) else (laws_bitsDue.l1 k x1 x2 x29 x30 (wrap64 (x31 + 1))))) else (none)) else (none)) else (some true)
end
def laws_bitsDue.f (k : Nat) (l0 : List Int) (l1 : List Int) (a2 : Int) (l3 : List Bool) : Option (Bool) := if (l1.length : Int) = (l0.length : Int) then (laws_bitsDue.l0 k l0 l1 a2 l3 0) else (some false)
theorem laws_bitsDue.mono_l : ∀ k, (∀ y0 y1 y2 y3 y4, LeO (laws_bitsDue.l0 k y0 y1 y2 y3 y4) (laws_bitsDue.l0 (k + 1) y0 y1 y2 y3 y4)) ∧ (∀ y0 y1 y2 y3 y4, LeO (laws_bitsDue.l1 k y0 y1 y2 y3 y4) (laws_bitsDue.l1 (k + 1) y0 y1 y2 y3 y4))
  | 0 => ⟨fun _ _ _ _ _ r h => by simp [laws_bitsDue.l0] at h, fun _ _ _ _ _ r h => by simp [laws_bitsDue.l1] at h⟩
  | k + 1 => by
    obtain ⟨ih0, ih1⟩ := laws_bitsDue.mono_l k
    refine ⟨?_, ?_⟩
    · intro y0 y1 y2 y3 y4
      unfold laws_bitsDue.l0
      repeat' first
      | (with_reducible exact ih0 _ _ _ _ _)
      | (with_reducible exact ih1 _ _ _ _ _)
      | (with_reducible exact LeO.refl _)
      | (with_reducible exact LeO.none _)
      | (with_reducible refine LeO.ite ?_ ?_)
      | (with_reducible refine LeO.bind ?_ (fun _ => ?_))
      | exact ih0 _ _ _ _ _
      | exact ih1 _ _ _ _ _
      | exact LeO.none _
      | refine LeO.ite ?_ ?_
      | refine LeO.bind ?_ (fun _ => ?_)
    · intro y0 y1 y2 y3 y4
      unfold laws_bitsDue.l1
      repeat' first
      | (with_reducible exact ih0 _ _ _ _ _)
      | (with_reducible exact ih1 _ _ _ _ _)
      | (with_reducible exact LeO.refl _)
      | (with_reducible exact LeO.none _)
      | (with_reducible refine LeO.ite ?_ ?_)
      | (with_reducible refine LeO.bind ?_ (fun _ => ?_))
      | exact ih0 _ _ _ _ _
      | exact ih1 _ _ _ _ _
      | exact LeO.none _
      | refine LeO.ite ?_ ?_
      | refine LeO.bind ?_ (fun _ => ?_)
theorem laws_bitsDue.mono : ∀ a0 a1 a2 a3 k, LeO (laws_bitsDue.f k a0 a1 a2 a3) (laws_bitsDue.f (k + 1) a0 a1 a2 a3) := by
  intro a0 a1 a2 a3 k
  obtain ⟨ih0, ih1⟩ := laws_bitsDue.mono_l k
  unfold laws_bitsDue.f
  repeat' first
      | (with_reducible exact ih0 _ _ _ _ _)
      | (with_reducible exact ih1 _ _ _ _ _)
      | (with_reducible exact LeO.refl _)
      | (with_reducible exact LeO.none _)
      | (with_reducible refine LeO.ite ?_ ?_)
      | (with_reducible refine LeO.bind ?_ (fun _ => ?_))
      | exact ih0 _ _ _ _ _
      | exact ih1 _ _ _ _ _
      | exact LeO.none _
      | refine LeO.ite ?_ ?_
      | refine LeO.bind ?_ (fun _ => ?_)
set_option maxHeartbeats 8000000 in
set_option maxRecDepth 100000 in
theorem laws_bitsDue.calls (k : Nat) (A0 : Option Addr) (c0 : Nat) (l0 : List Int) (A1 : Option Addr) (c1 : Nat) (l1 : List Int) (a2 : Int) (A3 : Option Addr) (c3 : Nat) (l3 : List Bool) (r : Bool) (w : World) (hr0 : Kd.C (Kd.int .u8) w A0 l0.length l0) (hc0 : l0.length ≤ c0) (hr1 : Kd.C (Kd.int .u8) w A1 l1.length l1) (hc1 : l1.length ≤ c1) (hr3 : Kd.C Kd.bool w A3 l3.length l3) (hc3 : l3.length ≤ c3) (h : laws_bitsDue.f k l0 l1 a2 l3 = some r) :
    Calls Tryz.prog 8 #[.slice A0 l0.length c0, .slice A1 l1.length c1, .int .i64 a2, .slice A3 l3.length c3] w fun e w' => e = .returned (.bool r) ∧ Drawn0 w w' := by
  have HR0 := Aside0.mk hr0
  have HC0 := Aside0.mk hc0
  clear hr0 hc0
  have HR1 := Aside0.mk hr1
  have HC1 := Aside0.mk hc1
  clear hr1 hc1
  have HR3 := Aside0.mk hr3
  have HC3 := Aside0.mk hc3
  clear hr3 hc3
  have H : (if (l1.length : Int) = (l0.length : Int) then (laws_bitsDue.l0 k l0 l1 a2 l3 0) else (some false)) = some r := h
  clear h
  by_cases c5 : (l1.length : Int) = (l0.length : Int)
  · rw [if_pos c5] at H
    have c5b0 : ((l1.length : Int) == (l0.length : Int)) = true := beq_iff_eq.mpr c5
    have c5b1 : ((l1.length : Int) != (l0.length : Int)) = false := bne_eq_false_iff_eq.mpr c5
    have c5b2 : (l1.length == l0.length) = true := by first | simpa using c5 | (simp at c5 ⊢; omega)
    clear c5
    have H' := Aside0.mk H
    clear H
    go_enter Tryz.func8, Tryz.ntmps8
    go_wp2
    go_loopg [9] k (fun kq v9 w' => ∃ (x9_1 : Int), v9 = .int .i64 x9_1 ∧ Aside0 (laws_bitsDue.l0 kq l0 l1 a2 l3 x9_1 = some r) ∧ Aside0 (kq ≤ k) ∧ Drawn0 w w')
    case atStart => exact ⟨(0), (by first | rfl | (simp; done) | (simp [*]; done)), H', ⟨Nat.le_refl _⟩, by repeat (first | exact Drawn0.refl _ | apply Drawn0.step)⟩
    case round =>
      clear H'
      try clear c1
      try clear p2
      try clear c3
      try clear c5
      try clear c5b0
      try clear c5b1
      try clear c5b2
      obtain ⟨x9_1, rfl, HA, HK1, ⟨m1, rfl⟩⟩ := hrel
      cases gk with
      | zero => exact absurd HA.out (by simp [laws_bitsDue.l0])
      | succ k1 =>
        have H := HA.out
        clear HA
        simp only [laws_bitsDue.l0] at H
        by_cases c6 : x9_1 < a2
        · rw [if_pos c6] at H
          have c6b0 : decide (x9_1 < a2) = true := decide_eq_true c6
          clear c6
          replace H := Option.bind_eq_some_iff.mp H
          obtain ⟨t136, A70, H⟩ := H
          replace H : ((spec_Bit.f l1 x9_1).bind fun t137 => (if (t136 != t137) = true then (some false) else (laws_bitsDue.l0 k1 l0 l1 a2 l3 (wrap64 (x9_1 + 1))))) = some r := H
          have A7 := Aside0.mk A70
          clear A70
          replace H := Option.bind_eq_some_iff.mp H
          obtain ⟨t137, A80, H⟩ := H
          replace H : (if (t136 != t137) = true then (some false) else (laws_bitsDue.l0 k1 l0 l1 a2 l3 (wrap64 (x9_1 + 1)))) = some r := H
          have A8 := Aside0.mk A80
          clear A80
          by_cases c9 : (t136 != t137) = true
          · rw [if_pos c9] at H
            have c9b0 : (t136 != t137) = true := c9
            (try (have c9b1 : decide (t136 = t137) = false := by simpa using c9))
            (try (have c9b2 : (t136 == t137) = false := by simpa using c9))
            (try (have c9b3 : ¬ (t136 = t137) := by simpa using c9))
            clear c9
            obtain rfl := Option.some.inj H
            go_wp2_with (first | ((with_reducible refine gate_callee (f := 17) rfl ?_); refine goesL_ (some 24) rfl rfl Tryz.func17 (by kernel_rfl) rfl #[.slice A0 l0.length c0, .int .i64 x9_1] rfl (by (try simp only [List.map_toArray, List.map_cons, List.map_nil]); first | done | rfl | (simp only [List.length_drop, List.length_take]; rfl)) ?_; (with_reducible refine (spec_Bit.calls _ _ l0 x9_1 t136 _ ?side1 ?side2 A7.out).mono ?_); (case side1 => repeat (first | exact HR0.out | (with_reducible refine Kd.C_alloc ?_ _) | (with_reducible refine Kd.C_drewN ?_ _) | (with_reducible refine Kd.C_drew ?_))); (case side2 => exact HC0.out); rintro e w' ⟨rfl, ⟨nd, rfl⟩⟩; refine ⟨_, rfl, ?_⟩) | ((with_reducible refine gate_callee (f := 17) rfl ?_); refine goesL_ (some 27) rfl rfl Tryz.func17 (by kernel_rfl) rfl #[.slice A1 l1.length c1, .int .i64 x9_1] rfl (by (try simp only [List.map_toArray, List.map_cons, List.map_nil]); first | done | rfl | (simp only [List.length_drop, List.length_take]; rfl)) ?_; (with_reducible refine (spec_Bit.calls _ _ l1 x9_1 t137 _ ?side1 ?side2 A8.out).mono ?_); (case side1 => repeat (first | exact HR1.out | (with_reducible refine Kd.C_alloc ?_ _) | (with_reducible refine Kd.C_drewN ?_ _) | (with_reducible refine Kd.C_drew ?_))); (case side2 => exact HC1.out); rintro e w' ⟨rfl, ⟨nd, rfl⟩⟩; refine ⟨_, rfl, ?_⟩))
            go_ret
            exact ⟨by first | rfl | (simp; done) | (simp [*]; done), by repeat (first | exact Drawn0.refl _ | apply Drawn0.step)⟩
          · rw [if_neg c9] at H
            have c9b0 : (t136 != t137) = false := by simpa using c9
            (try (have c9b1 : decide (t136 = t137) = true := by simpa using c9))
            (try (have c9b2 : (t136 == t137) = true := by simpa using c9))
            clear c9
            have H' := Aside0.mk H
            clear H
            go_wp2_with (first | ((with_reducible refine gate_callee (f := 17) rfl ?_); refine goesL_ (some 24) rfl rfl Tryz.func17 (by kernel_rfl) rfl #[.slice A0 l0.length c0, .int .i64 x9_1] rfl (by (try simp only [List.map_toArray, List.map_cons, List.map_nil]); first | done | rfl | (simp only [List.length_drop, List.length_take]; rfl)) ?_; (with_reducible refine (spec_Bit.calls _ _ l0 x9_1 t136 _ ?side1 ?side2 A7.out).mono ?_); (case side1 => repeat (first | exact HR0.out | (with_reducible refine Kd.C_alloc ?_ _) | (with_reducible refine Kd.C_drewN ?_ _) | (with_reducible refine Kd.C_drew ?_))); (case side2 => exact HC0.out); rintro e w' ⟨rfl, ⟨nd, rfl⟩⟩; refine ⟨_, rfl, ?_⟩) | ((with_reducible refine gate_callee (f := 17) rfl ?_); refine goesL_ (some 27) rfl rfl Tryz.func17 (by kernel_rfl) rfl #[.slice A1 l1.length c1, .int .i64 x9_1] rfl (by (try simp only [List.map_toArray, List.map_cons, List.map_nil]); first | done | rfl | (simp only [List.length_drop, List.length_take]; rfl)) ?_; (with_reducible refine (spec_Bit.calls _ _ l1 x9_1 t137 _ ?side1 ?side2 A8.out).mono ?_); (case side1 => repeat (first | exact HR1.out | (with_reducible refine Kd.C_alloc ?_ _) | (with_reducible refine Kd.C_drewN ?_ _) | (with_reducible refine Kd.C_drew ?_))); (case side2 => exact HC1.out); rintro e w' ⟨rfl, ⟨nd, rfl⟩⟩; refine ⟨_, rfl, ?_⟩))
            go_roundg k1
            case measure => have := HK1.out; omega
            case rel => exact ⟨(wrap64 (x9_1 + 1)), (by first | rfl | (simp; done) | (simp [*]; done)), H', ⟨by have := HK1.out; omega⟩, by repeat (first | exact Drawn0.refl _ | apply Drawn0.step)⟩
        · rw [if_neg c6] at H
          have c6b0 : decide (x9_1 < a2) = false := decide_eq_false c6
          clear c6
          have H' := Aside0.mk H
          clear H
          go_wp2
          go_loopg [31] k1 (fun kq v31 w' => ∃ (x31_2 : Int), v31 = .int .i64 x31_2 ∧ Aside0 (laws_bitsDue.l1 kq l1 a2 l3 (l3.length : Int) x31_2 = some r) ∧ Aside0 (kq ≤ k1) ∧ Drawn0 w w')
          case atStart => exact ⟨(0), (by first | rfl | (simp; done) | (simp [*]; done)), H', ⟨Nat.le_refl _⟩, by repeat (first | exact Drawn0.refl _ | apply Drawn0.step)⟩
          case round =>
            clear H'
            try clear c1
            try clear p2
            try clear c3
            try clear c5
            try clear c5b0
            try clear c5b1
            try clear c5b2
            try clear c6
            try clear c6b0
            try clear p6
            try clear c8
            try clear c9
            try clear c9b0
            try clear c9b1
            try clear c9b2
            try clear p2
            obtain ⟨x31_2, rfl, HA, HK2, ⟨m2, rfl⟩⟩ := hrel
            cases gk with
            | zero => exact absurd HA.out (by simp [laws_bitsDue.l1])
            | succ k2 =>
              have H := HA.out
              clear HA
              simp only [laws_bitsDue.l1] at H
              by_cases c10 : x31_2 < (l3.length : Int)
              · rw [if_pos c10] at H
                have c10b0 : decide (x31_2 < (l3.length : Int)) = true := decide_eq_true c10
                clear c10
                by_cases c11 : 0 ≤ x31_2
                · rw [if_pos c11] at H
                  have c11b0 : decide (0 ≤ x31_2) = true := decide_eq_true c11
                  clear c11
                  by_cases c12 : x31_2 < (l3.length : Int)
                  · rw [if_pos c12] at H
                    have c12b0 : decide (x31_2 < (l3.length : Int)) = true := decide_eq_true c12
                    clear c12
                    replace H := Option.bind_eq_some_iff.mp H
                    obtain ⟨t139, A130, H⟩ := H
                    replace H : (if (t139 != (rdOf false l3 x31_2)) = true then (some false) else (laws_bitsDue.l1 k2 l1 a2 l3 (l3.length : Int) (wrap64 (x31_2 + 1)))) = some r := H
                    have A13 := Aside0.mk A130
                    clear A130
                    by_cases c14 : (t139 != (rdOf false l3 x31_2)) = true
                    · rw [if_pos c14] at H
                      have c14b0 : (t139 != (rdOf false l3 x31_2)) = true := c14
                      (try (have c14b1 : decide (t139 = (rdOf false l3 x31_2)) = false := by simpa using c14))
                      (try (have c14b2 : (t139 == (rdOf false l3 x31_2)) = false := by simpa using c14))
                      (try (have c14b3 : ¬ (t139 = (rdOf false l3 x31_2)) := by simpa using c14))
                      clear c14
                      obtain rfl := Option.some.inj H
                      have p138 : 0 ≤ (x31_2 : Int) := of_decide_eq_true (by first | (with_reducible assumption) | assumption)
                      have q138 : x31_2 < (l3.length : Int) := of_decide_eq_true (by first | (with_reducible assumption) | assumption)
                      obtain ⟨ad138, e138, hx138_0⟩ := Kd.at_bool HR3.out x31_2 p138 q138
                      cases e138
                      replace p138 := eq_true p138
                      replace q138 := eq_true q138
                      go_wp2_with (first | ((with_reducible refine gate_callee (f := 17) rfl ?_); refine goesL_ (some 40) rfl rfl Tryz.func17 (by kernel_rfl) rfl #[.slice A1 l1.length c1, .int .i64 (wrap64 (a2 + x31_2))] rfl (by (try simp only [List.map_toArray, List.map_cons, List.map_nil]); first | done | rfl | (simp only [List.length_drop, List.length_take]; rfl)) ?_; (with_reducible refine (spec_Bit.calls _ _ l1 (wrap64 (a2 + x31_2)) t139 _ ?side1 ?side2 A13.out).mono ?_); (case side1 => repeat (first | exact HR1.out | (with_reducible refine Kd.C_alloc ?_ _) | (with_reducible refine Kd.C_drewN ?_ _) | (with_reducible refine Kd.C_drew ?_))); (case side2 => exact HC1.out); rintro e w' ⟨rfl, ⟨nd, rfl⟩⟩; refine ⟨_, rfl, ?_⟩))
                      go_ret
                      exact ⟨by first | rfl | (simp; done) | (simp [*]; done), by repeat (first | exact Drawn0.refl _ | apply Drawn0.step)⟩
                    · rw [if_neg c14] at H
                      have c14b0 : (t139 != (rdOf false l3 x31_2)) = false := by simpa using c14
                      (try (have c14b1 : decide (t139 = (rdOf false l3 x31_2)) = true := by simpa using c14))
                      (try (have c14b2 : (t139 == (rdOf false l3 x31_2)) = true := by simpa using c14))
                      clear c14
                      have H' := Aside0.mk H
                      clear H
                      have p138 : 0 ≤ (x31_2 : Int) := of_decide_eq_true (by first | (with_reducible assumption) | assumption)
                      have q138 : x31_2 < (l3.length : Int) := of_decide_eq_true (by first | (with_reducible assumption) | assumption)
                      obtain ⟨ad138, e138, hx138_0⟩ := Kd.at_bool HR3.out x31_2 p138 q138
                      cases e138
                      replace p138 := eq_true p138
                      replace q138 := eq_true q138
                      go_wp2_with (first | ((with_reducible refine gate_callee (f := 17) rfl ?_); refine goesL_ (some 40) rfl rfl Tryz.func17 (by kernel_rfl) rfl #[.slice A1 l1.length c1, .int .i64 (wrap64 (a2 + x31_2))] rfl (by (try simp only [List.map_toArray, List.map_cons, List.map_nil]); first | done | rfl | (simp only [List.length_drop, List.length_take]; rfl)) ?_; (with_reducible refine (spec_Bit.calls _ _ l1 (wrap64 (a2 + x31_2)) t139 _ ?side1 ?side2 A13.out).mono ?_); (case side1 => repeat (first | exact HR1.out | (with_reducible refine Kd.C_alloc ?_ _) | (with_reducible refine Kd.C_drewN ?_ _) | (with_reducible refine Kd.C_drew ?_))); (case side2 => exact HC1.out); rintro e w' ⟨rfl, ⟨nd, rfl⟩⟩; refine ⟨_, rfl, ?_⟩))
                      go_roundg k2
                      case measure => have := HK1.out; have := HK2.out; omega
                      case rel => exact ⟨(wrap64 (x31_2 + 1)), (by first | rfl | (simp; done) | (simp [*]; done)), H', ⟨by have := HK1.out; have := HK2.out; omega⟩, by repeat (first | exact Drawn0.refl _ | apply Drawn0.step)⟩
                  · rw [if_neg c12] at H
                    exact absurd H (by simp)
                · rw [if_neg c11] at H
                  exact absurd H (by simp)
              · rw [if_neg c10] at H
                have c10b0 : decide (x31_2 < (l3.length : Int)) = false := decide_eq_false c10
                clear c10
                obtain rfl := Option.some.inj H
                go_wp2
                go_ret
                exact ⟨by first | rfl | (simp; done) | (simp [*]; done), by repeat (first | exact Drawn0.refl _ | apply Drawn0.step)⟩
  · rw [if_neg c5] at H
    have c5b0 : ((l1.length : Int) == (l0.length : Int)) = false := beq_eq_false_iff_ne.mpr c5
    have c5b1 : ((l1.length : Int) != (l0.length : Int)) = true := bne_iff_ne.mpr c5
    have c5b2 : (l1.length == l0.length) = false := by first | simpa using c5 | (simp at c5 ⊢; omega)
    obtain rfl := Option.some.inj H
    go_enter Tryz.func8, Tryz.ntmps8
    go_wp2
    go_ret
    exact ⟨by first | rfl | (simp; done) | (simp [*]; done), by repeat (first | exact Drawn0.refl _ | apply Drawn0.step)⟩

/-! ### laws_place2: function 18 -/
def laws_place2.f (a0 : Int) (a1 : Int) : Option (Int × Int) := if a0 = 1 then (some (a1, 0)) else (if a0 = 2 then (some (0, a1)) else (some (a1, a1)))
set_option maxHeartbeats 8000000 in
set_option maxRecDepth 100000 in
theorem laws_place2.calls (a0 : Int) (a1 : Int) (r1 : Int) (r2 : Int) (w : World) (h : laws_place2.f a0 a1 = some (r1, r2)) :
    Calls Tryz.prog 18 #[.int .i64 a0, .int .i64 a1] w fun e w' => e = .returned (.tuple #[.int .i64 r1, .int .i64 r2]) ∧ Drawn0 w w' := by
  have H : (if a0 = 1 then (some (a1, 0)) else (if a0 = 2 then (some (0, a1)) else (some (a1, a1)))) = some (r1, r2) := h
  clear h
  by_cases c3 : a0 = 1
  · rw [if_pos c3] at H
    have c3b0 : (a0 == 1) = true := beq_iff_eq.mpr c3
    have c3b1 : (a0 != 1) = false := bne_eq_false_iff_eq.mpr c3
    clear c3
    simp only [Option.some.injEq, Prod.mk.injEq] at H
    obtain ⟨rfl, rfl⟩ := H
    go_enter Tryz.func18, Tryz.ntmps18
    go_wp2
    go_ret2
    exact ⟨by first | rfl | (simp; done) | (simp [*]; done), by repeat (first | exact Drawn0.refl _ | apply Drawn0.step)⟩
  · rw [if_neg c3] at H
    have c3b0 : (a0 == 1) = false := beq_eq_false_iff_ne.mpr c3
    have c3b1 : (a0 != 1) = true := bne_iff_ne.mpr c3
    by_cases c4 : a0 = 2
    · rw [if_pos c4] at H
      have c4b0 : (a0 == 2) = true := beq_iff_eq.mpr c4
      have c4b1 : (a0 != 2) = false := bne_eq_false_iff_eq.mpr c4
      clear c4
      simp only [Option.some.injEq, Prod.mk.injEq] at H
      obtain ⟨rfl, rfl⟩ := H
      go_enter Tryz.func18, Tryz.ntmps18
      go_wp2
      go_ret2
      exact ⟨by first | rfl | (simp; done) | (simp [*]; done), by repeat (first | exact Drawn0.refl _ | apply Drawn0.step)⟩
    · rw [if_neg c4] at H
      have c4b0 : (a0 == 2) = false := beq_eq_false_iff_ne.mpr c4
      have c4b1 : (a0 != 2) = true := bne_iff_ne.mpr c4
      simp only [Option.some.injEq, Prod.mk.injEq] at H
      obtain ⟨rfl, rfl⟩ := H
      go_enter Tryz.func18, Tryz.ntmps18
      go_wp2
      go_ret2
      exact ⟨by first | rfl | (simp; done) | (simp [*]; done), by repeat (first | exact Drawn0.refl _ | apply Drawn0.step)⟩

/-! ### laws_answer: function 21 -/
def laws_answer.f (a0 : Int) (a1 : Int) (a2 : Bool) : Option (Bool) := if a2 = true then (some (a0 == 1)) else (if a0 = 0 then (some (a1 == 0)) else (if a0 = 1 then (some (a1 != 0)) else (if a0 = 2 then (some (decide (a1 > 0))) else (some (decide (a1 ≥ 0))))))
set_option maxHeartbeats 8000000 in
set_option maxRecDepth 100000 in
theorem laws_answer.calls (a0 : Int) (a1 : Int) (a2 : Bool) (r : Bool) (w : World) (h : laws_answer.f a0 a1 a2 = some r) :
    Calls Tryz.prog 21 #[.int .i64 a0, .int .i64 a1, .bool a2] w fun e w' => e = .returned (.bool r) ∧ Drawn0 w w' := by
  have H : (if a2 = true then (some (a0 == 1)) else (if a0 = 0 then (some (a1 == 0)) else (if a0 = 1 then (some (a1 != 0)) else (if a0 = 2 then (some (decide (a1 > 0))) else (some (decide (a1 ≥ 0))))))) = some r := h
  clear h
  by_cases c4 : a2 = true
  · subst c4
    have H1 : (some (a0 == 1)) = some r := by rw [if_pos rfl] at H; exact H
    clear H
    have H := H1
    clear H1
    obtain rfl := Option.some.inj H
    go_enter Tryz.func21, Tryz.ntmps21
    go_wp2
    go_ret
    exact ⟨by first | rfl | (simp; done) | (simp [*]; done), by repeat (first | exact Drawn0.refl _ | apply Drawn0.step)⟩
  · replace c4 := Bool.eq_false_iff.mpr c4
    subst c4
    have H1 : (if a0 = 0 then (some (a1 == 0)) else (if a0 = 1 then (some (a1 != 0)) else (if a0 = 2 then (some (decide (a1 > 0))) else (some (decide (a1 ≥ 0)))))) = some r := by rw [if_neg (show ¬ (false = true) by decide)] at H; exact H
    clear H
    have H := H1
    clear H1
    by_cases c5 : a0 = 0
    · rw [if_pos c5] at H
      have c5b0 : (a0 == 0) = true := beq_iff_eq.mpr c5
      have c5b1 : (a0 != 0) = false := bne_eq_false_iff_eq.mpr c5
      clear c5
      obtain rfl := Option.some.inj H
      go_enter Tryz.func21, Tryz.ntmps21
      go_wp2
      go_ret
      exact ⟨by first | rfl | (simp; done) | (simp [*]; done), by repeat (first | exact Drawn0.refl _ | apply Drawn0.step)⟩
    · rw [if_neg c5] at H
      have c5b0 : (a0 == 0) = false := beq_eq_false_iff_ne.mpr c5
      have c5b1 : (a0 != 0) = true := bne_iff_ne.mpr c5
      by_cases c6 : a0 = 1
      · rw [if_pos c6] at H
        have c6b0 : (a0 == 1) = true := beq_iff_eq.mpr c6
        have c6b1 : (a0 != 1) = false := bne_eq_false_iff_eq.mpr c6
        clear c6
        obtain rfl := Option.some.inj H
        go_enter Tryz.func21, Tryz.ntmps21
        go_wp2
        go_ret
        exact ⟨by first | rfl | (simp; done) | (simp [*]; done), by repeat (first | exact Drawn0.refl _ | apply Drawn0.step)⟩
      · rw [if_neg c6] at H
        have c6b0 : (a0 == 1) = false := beq_eq_false_iff_ne.mpr c6
        have c6b1 : (a0 != 1) = true := bne_iff_ne.mpr c6
        by_cases c7 : a0 = 2
        · rw [if_pos c7] at H
          have c7b0 : (a0 == 2) = true := beq_iff_eq.mpr c7
          have c7b1 : (a0 != 2) = false := bne_eq_false_iff_eq.mpr c7
          clear c7
          obtain rfl := Option.some.inj H
          go_enter Tryz.func21, Tryz.ntmps21
          go_wp2
          go_ret
          exact ⟨by first | rfl | (simp; done) | (simp [*]; done), by repeat (first | exact Drawn0.refl _ | apply Drawn0.step)⟩
        · rw [if_neg c7] at H
          have c7b0 : (a0 == 2) = false := beq_eq_false_iff_ne.mpr c7
          have c7b1 : (a0 != 2) = true := bne_iff_ne.mpr c7
          obtain rfl := Option.some.inj H
          go_enter Tryz.func21, Tryz.ntmps21
          go_wp2
          go_ret
          exact ⟨by first | rfl | (simp; done) | (simp [*]; done), by repeat (first | exact Drawn0.refl _ | apply Drawn0.step)⟩

end Go.Proofs.YtgccaabpckfhlaaGreatDoor.Q
