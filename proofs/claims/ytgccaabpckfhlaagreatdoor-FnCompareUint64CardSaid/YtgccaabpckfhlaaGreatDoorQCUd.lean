-- written by programs of ours (wip/tools) out of the kit's printer: the functions of one law, less those that are shared or proved by hand
import Derived.Test.YtgccaabpckfhlaaGreatDoorQ0
import Derived.Test.YtgccaabpckfhlaaGreatDoorQCUc
import Derived.Test.YtgccaabpckfhlaaGreatDoorSp
namespace Go.Proofs.YtgccaabpckfhlaaGreatDoor.Q
open Go.RowKit Go.Proofs.YtgccaabpckfhlaaGreatDoorW.PrintWords Go.Proofs.YtgccaabpckfhlaaGreatDoorW.PrintLast Go.Proofs.YtgccaabpckfhlaaGreatDoorW.PrintMore
attribute [local go_sem] max2_int min2_int max_two min_two max_three min_three max_four min_four
set_option linter.unusedVariables false
set_option linter.unusedSimpArgs false

/-! ### laws_compareDue: function 9 -/
mutual
def laws_compareDue.l0 : Nat → Int → Int → List (S52) → List (S52) → Int → List Bool → Int → Int → Int → Bool → Int → Int → Int → ByteArray → Bool → List Int → List Int → Option (List Bool)
  | 0, _, _, _, _, _, _, _, _, _, _, _, _, _, _, _, _, _ => none
  | k + 1, x1, x2, x3, x4, x5, x13, x14, x273000, x273001, x273002, x273003, x273004, x273005, x273006, x273007, x273008, x273009 => if x14 < x5 then ((laws_place2.f x2 x14).bind fun bt273 => (if 0 ≤ bt273.1 then (if bt273.1 < (x3.length : Int) then ((spec_NotNumber.f x273000 x273001 x273002 x273003 x273004 x273005 x273006 x273007 x273008 x273009 ((rd_T52 x3 bt273.1).f0) ((rd_T52 x3 bt273.1).f1) ((rd_T52 x3 bt273.1).f2) ((rd_T52 x3 bt273.1).f3)).bind fun t276 => (if t276 = true then (laws_compareDue.j1 k x1 x2 x3 x4 x5 x13 x14 bt273.1 bt273.2 true x273000 x273001 x273002 x273003 x273004 x273005 x273006 x273007 x273008 x273009) else (if 0 ≤ bt273.2 then (if bt273.2 < (x4.length : Int) then ((spec_NotNumber.f x273000 x273001 x273002 x273003 x273004 x273005 x273006 x273007 x273008 x273009 ((rd_T52 x4 bt273.2).f0) ((rd_T52 x4 bt273.2).f1) ((rd_T52 x4 bt273.2).f2) ((rd_T52 x4 bt273.2).f3)).bind fun t278 => (laws_compareDue.j1 k x1 x2 x3 x4 x5 x13 x14 bt273.1 bt273.2 t278 x273000 x273001 x273002 x273003 x273004 x273005 x273006 x273007 x273008 x273009)) else (none)) else (none)))) else (none)) else (none))) else (some x13)
def laws_compareDue.j1 : Nat → Int → Int → List (S52) → List (S52) → Int → List Bool → Int → Int → Int → Bool → Int → Int → Bool → Int → Int → Int → ByteArray → Bool → List Int → List Int → Option (List Bool)
  | 0, _, _, _, _, _, _, _, _, _, _, _, _, _, _, _, _, _, _, _, _ => none
  | k + 1, x1, x2, x3, x4, x5, x13, x14, x15, x16, x17, x273000, x273001, x273002, x273003, x273004, x273005, x273006, x273007, x273008, x273009 => if x17 = true then ((laws_answer.f x1 0 x17).bind fun t279 => (if x13.length < 140737488355328 then (laws_compareDue.l0 k x1 x2 x3 x4 x5 (x13 ++ [t279]) (wrap64 (x14 + 1)) x273000 x273001 x273002 x273003 x273004 x273005 x273006 x273007 x273008 x273009) else (none))) else (if 0 ≤ x15 then (if x15 < (x3.length : Int) then (if 0 ≤ x16 then (if x16 < (x4.length : Int) then ((spec_Order.f x273000 x273001 x273002 x273003 x273004 x273005 x273006 x273007 x273008 x273009 ((rd_T52 x3 x15).f0) ((rd_T52 x3 x15).f1) ((rd_T52 x3 x15).f2) ((rd_T52 x3 x15).f3) ((rd_T52 x4 x16).f0) ((rd_T52 x4 x16).f1) ((rd_T52 x4 x16).f2) ((rd_T52 x4 x16).f3)).bind fun t285 => ((laws_answer.f x1 t285 x17).bind fun t286 => (if x13.length < 140737488355328 then (laws_compareDue.l0 k x1 x2 x3 x4 x5 (x13 ++ [t286]) (wrap64 (x14 + 1)) x273000 x273001 x273002 x273003 x273004 x273005 x273006 x273007 x273008 x273009) else (none)))) else (none)) else (none)) else (none)) else (none))
end
def laws_compareDue.f (k : Nat) (a0_0 : Int) (a0_1 : Int) (a0_2 : Bool) (a0_3 : Int) (a0_4 : Int) (a0_5 : Int) (a0_6 : ByteArray) (a0_7 : Bool) (l0_8 : List Int) (l0_9 : List Int) (a1 : Int) (a2 : Int) (l3 : List (S52)) (l4 : List (S52)) (a5 : Int) : Option (List Bool) := laws_compareDue.l0 k a1 a2 l3 l4 a5 ([] : List Bool) 0 a0_0 a0_1 a0_2 a0_3 a0_4 a0_5 a0_6 a0_7 l0_8 l0_9
theorem laws_compareDue.mono_l : ∀ k, (∀ y0 y1 y2 y3 y4 y5 y6 y7 y8 y9 y10 y11 y12 y13 y14 y15 y16, LeO (laws_compareDue.l0 k y0 y1 y2 y3 y4 y5 y6 y7 y8 y9 y10 y11 y12 y13 y14 y15 y16) (laws_compareDue.l0 (k + 1) y0 y1 y2 y3 y4 y5 y6 y7 y8 y9 y10 y11 y12 y13 y14 y15 y16)) ∧ (∀ y0 y1 y2 y3 y4 y5 y6 y7 y8 y9 y10 y11 y12 y13 y14 y15 y16 y17 y18 y19, LeO (laws_compareDue.j1 k y0 y1 y2 y3 y4 y5 y6 y7 y8 y9 y10 y11 y12 y13 y14 y15 y16 y17 y18 y19) (laws_compareDue.j1 (k + 1) y0 y1 y2 y3 y4 y5 y6 y7 y8 y9 y10 y11 y12 y13 y14 y15 y16 y17 y18 y19))
  | 0 => ⟨fun _ _ _ _ _ _ _ _ _ _ _ _ _ _ _ _ _ r h => by simp [laws_compareDue.l0] at h, fun _ _ _ _ _ _ _ _ _ _ _ _ _ _ _ _ _ _ _ _ r h => by simp [laws_compareDue.j1] at h⟩
  | k + 1 => by
    obtain ⟨ih0, ih1⟩ := laws_compareDue.mono_l k
    refine ⟨?_, ?_⟩
    · intro y0 y1 y2 y3 y4 y5 y6 y7 y8 y9 y10 y11 y12 y13 y14 y15 y16
      unfold laws_compareDue.l0
      repeat' first
      | (with_reducible exact ih0 _ _ _ _ _ _ _ _ _ _ _ _ _ _ _ _ _)
      | (with_reducible exact ih1 _ _ _ _ _ _ _ _ _ _ _ _ _ _ _ _ _ _ _ _)
      | (with_reducible exact LeO.refl _)
      | (with_reducible exact LeO.none _)
      | (with_reducible refine LeO.ite ?_ ?_)
      | (with_reducible refine LeO.bind ?_ (fun _ => ?_))
      | exact ih0 _ _ _ _ _ _ _ _ _ _ _ _ _ _ _ _ _
      | exact ih1 _ _ _ _ _ _ _ _ _ _ _ _ _ _ _ _ _ _ _ _
      | exact LeO.none _
      | refine LeO.ite ?_ ?_
      | refine LeO.bind ?_ (fun _ => ?_)
    · intro y0 y1 y2 y3 y4 y5 y6 y7 y8 y9 y10 y11 y12 y13 y14 y15 y16 y17 y18 y19
      unfold laws_compareDue.j1
      repeat' first
      | (with_reducible exact ih0 _ _ _ _ _ _ _ _ _ _ _ _ _ _ _ _ _)
      | (with_reducible exact ih1 _ _ _ _ _ _ _ _ _ _ _ _ _ _ _ _ _ _ _ _)
      | (with_reducible exact LeO.refl _)
      | (with_reducible exact LeO.none _)
      | (with_reducible refine LeO.ite ?_ ?_)
      | (with_reducible refine LeO.bind ?_ (fun _ => ?_))
      | exact ih0 _ _ _ _ _ _ _ _ _ _ _ _ _ _ _ _ _
      | exact ih1 _ _ _ _ _ _ _ _ _ _ _ _ _ _ _ _ _ _ _ _
      | exact LeO.none _
      | refine LeO.ite ?_ ?_
      | refine LeO.bind ?_ (fun _ => ?_)
theorem laws_compareDue.mono : ∀ a0 a1 a2 a3 a4 a5 a6 a7 a8 a9 a10 a11 a12 a13 a14 k, LeO (laws_compareDue.f k a0 a1 a2 a3 a4 a5 a6 a7 a8 a9 a10 a11 a12 a13 a14) (laws_compareDue.f (k + 1) a0 a1 a2 a3 a4 a5 a6 a7 a8 a9 a10 a11 a12 a13 a14) := by
  intro a0 a1 a2 a3 a4 a5 a6 a7 a8 a9 a10 a11 a12 a13 a14 k
  obtain ⟨ih0, ih1⟩ := laws_compareDue.mono_l k
  unfold laws_compareDue.f
  repeat' first
      | (with_reducible exact ih0 _ _ _ _ _ _ _ _ _ _ _ _ _ _ _ _ _)
      | (with_reducible exact ih1 _ _ _ _ _ _ _ _ _ _ _ _ _ _ _ _ _ _ _ _)
      | (with_reducible exact LeO.refl _)
      | (with_reducible exact LeO.none _)
      | (with_reducible refine LeO.ite ?_ ?_)
      | (with_reducible refine LeO.bind ?_ (fun _ => ?_))
      | exact ih0 _ _ _ _ _ _ _ _ _ _ _ _ _ _ _ _ _
      | exact ih1 _ _ _ _ _ _ _ _ _ _ _ _ _ _ _ _ _ _ _ _
      | exact LeO.none _
      | refine LeO.ite ?_ ?_
      | refine LeO.bind ?_ (fun _ => ?_)
def laws_compareDue.T6 : Bool × List (List Nat × List Nat) := (true, [([], []), ([], []), ([], []), ([1, 2], [1, 2]), ([3], [3]), ([0, 4], [0, 4]), ([5, 5], [5]), ([6], [6]), ([6], [6]), ([6], [6]), ([8, 9, 6], [6, 8, 9]), ([10, 6], [6, 10]), ([7, 11, 6, 6], [6, 7, 11]), ([6, 12], [6, 12]), ([13, 12, 0, 1, 2, 3, 4, 5, 6, 7, 8, 9, 10, 11, 12, 13], [13])])
def laws_compareDue.B6 : List Nat := [0, 0, 0, 6, 14, 31, 63, 127, 127, 127, 895, 1919, 4095, 8191, 16383]
theorem laws_compareDue.tab6 : rtab .any (opsOf Tryz.f9 6) = laws_compareDue.T6 := by kernel_rfl
theorem laws_compareDue.bits6 : waitsOk laws_compareDue.T6.2 laws_compareDue.B6 = true := by kernel_rfl
def laws_compareDue.T9 : Bool × List (List Nat × List Nat) := (true, [([], []), ([], []), ([], []), ([1, 2], [1, 2]), ([3], [3]), ([], []), ([], []), ([5, 6], [5, 6]), ([7], [7]), ([0, 4, 8], [0, 4, 8]), ([9, 9, 0, 1, 2, 3, 4, 5, 6, 7, 8, 9], [9])])
def laws_compareDue.B9 : List Nat := [0, 0, 0, 6, 14, 0, 0, 96, 224, 511, 1023]
theorem laws_compareDue.tab9 : rtab .any (opsOf Tryz.f9 9) = laws_compareDue.T9 := by kernel_rfl
theorem laws_compareDue.bits9 : waitsOk laws_compareDue.T9.2 laws_compareDue.B9 = true := by kernel_rfl
set_option maxHeartbeats 8000000 in
set_option maxRecDepth 100000 in
theorem laws_compareDue.calls (k : Nat) (a0_0 : Int) (a0_1 : Int) (a0_2 : Bool) (a0_3 : Int) (a0_4 : Int) (a0_5 : Int) (a0_6 : ByteArray) (a0_7 : Bool) (A0_8 : Option Addr) (c0_8 : Nat) (l0_8 : List Int) (A0_9 : Option Addr) (c0_9 : Nat) (l0_9 : List Int) (a1 : Int) (a2 : Int) (A3 : Option Addr) (c3 : Nat) (l3 : List (S52)) (A4 : Option Addr) (c4 : Nat) (l4 : List (S52)) (a5 : Int) (r : List Bool) (w : World) (hr0_8 : Kd.C (Kd.int .i64) w A0_8 l0_8.length l0_8) (hc0_8 : l0_8.length ≤ c0_8) (hr0_9 : Kd.C (Kd.int .i64) w A0_9 l0_9.length l0_9) (hc0_9 : l0_9.length ≤ c0_9) (hr3 : Kd.C k52 w A3 l3.length l3) (hc3 : l3.length ≤ c3) (hr4 : Kd.C k52 w A4 l4.length l4) (hc4 : l4.length ≤ c4) (h : laws_compareDue.f k a0_0 a0_1 a0_2 a0_3 a0_4 a0_5 a0_6 a0_7 l0_8 l0_9 a1 a2 l3 l4 a5 = some r) :
    Calls Tryz.prog 9 #[.agg #[.int .i64 a0_0, .int .i64 a0_1, .bool a0_2, .int .i64 a0_3, .int .i64 a0_4, .int .i64 a0_5, .string a0_6, .bool a0_7, .slice A0_8 l0_8.length c0_8, .slice A0_9 l0_9.length c0_9], .int .i64 a1, .int .i64 a2, .slice A3 l3.length c3, .slice A4 l4.length c4, .int .i64 a5] w fun e w' => ∃ v0_ : Value, e = .returned (v0_) ∧ Kd.R Kd.bool 4 w' w.heap.size (fun _ => True) v0_ r ∧ Below w.heap.size w w' := by
  have hu35 := Tryz.underlying35
  have hu52 := Tryz.underlying52
  have HR0_8 := Aside0.mk hr0_8
  have HC0_8 := Aside0.mk hc0_8
  clear hr0_8 hc0_8
  have HR0_9 := Aside0.mk hr0_9
  have HC0_9 := Aside0.mk hc0_9
  clear hr0_9 hc0_9
  have HR3 := Aside0.mk hr3
  have HC3 := Aside0.mk hc3
  clear hr3 hc3
  have HR4 := Aside0.mk hr4
  have HC4 := Aside0.mk hc4
  clear hr4 hc4
  have HB := Aside0.mk (Below.refl w.heap.size w)
  have H : (laws_compareDue.l0 k a1 a2 l3 l4 a5 ([] : List Bool) 0 a0_0 a0_1 a0_2 a0_3 a0_4 a0_5 a0_6 a0_7 l0_8 l0_9) = some r := h
  clear h
  have H' := Aside0.mk H
  clear H
  go_enter Tryz.func9, Tryz.ntmps9
  go_wp2_with (first | ((with_reducible refine gate_dst (N := 6) rfl ?_); refine box_event ?hg (N := 6) ?hd (cs := #[.int .i64 a0_0, .int .i64 a0_1, .bool a0_2, .int .i64 a0_3, .int .i64 a0_4, .int .i64 a0_5, .string a0_6, .bool a0_7, .slice A0_8 l0_8.length c0_8, .slice A0_9 l0_9.length c0_9]) (t := 35) ?hr ?_; (case hd => rfl); (case hg => rfl); (case hr => first | (go_simp; done) | (go_simp; rfl)); intro gb272 hg w7 hbox hb; have n0_ := Aside0.mk (below_step (by repeat (first | (with_reducible first | exact HB.out | apply below_alloc | apply pw_below_drewN | apply below_drew1) | exact HB.out)) hb); have n1_ := Aside0.mk (hbox); have n2_ := Aside0.mk ((by rw [hg]; exact (below_size (by repeat (first | (with_reducible first | exact HB.out | apply below_alloc | apply pw_below_drewN | apply below_drew1) | exact HB.out))) : w.heap.size ≤ gb272)); have n3_ := Aside0.mk ((by rw [hg]; exact (below_size (by repeat (first | (with_reducible first | exact HB.out | apply below_alloc | apply pw_below_drewN | apply below_drew1) | exact HB.out))) : w.heap.size ≤ gb272)); clear HB; have HB := n0_; have BK272 := n1_; have GW272 := n2_; have GE272 := n3_; clear n0_ n1_ n2_ n3_; clear hb hbox hg))
  go_loopg [13, 14] k (fun kq v13 v14 w' => ∃ (x13_1 : List Bool) (x14_1 : Int), v14 = .int .i64 x14_1 ∧ Aside0 (laws_compareDue.l0 kq a1 a2 l3 l4 a5 x13_1 x14_1 a0_0 a0_1 a0_2 a0_3 a0_4 a0_5 a0_6 a0_7 l0_8 l0_9 = some r) ∧ Aside0 (kq ≤ k) ∧ Aside0 (Kd.R Kd.bool 4 w' w.heap.size (fun _ => True) v13 x13_1) ∧ Aside0 (w'.heap[gb272]? = some (.cells #[.int .i64 a0_0, .int .i64 a0_1, .bool a0_2, .int .i64 a0_3, .int .i64 a0_4, .int .i64 a0_5, .string a0_6, .bool a0_7, (.slice A0_8 l0_8.length c0_8), (.slice A0_9 l0_9.length c0_9)] 35 (0, 0))) ∧ Aside0 (Below w.heap.size w w'))
  case atStart => exact ⟨(([] : List Bool)), (0), (by first | rfl | (simp; done) | (simp [*]; done)), H', ⟨Nat.le_refl _⟩, ⟨by first | exact Kd.R_nil _ _ _ _ _ | exact Kd.N_nil _ _ _ _ _ | exact Kd.V_nil _ _ _ _ _ | exact Kd.Q_nil _ _ _ _ _ | exact Kd.S_nil _ _ _ _ _⟩, ⟨by (with_reducible repeat (first | refine blk_drewN ?_ _ | refine blk_drew ?_ | refine blk_alloc ?_ _)); exact BK272.out⟩, ⟨by repeat (first | (with_reducible first | exact HB.out | apply below_alloc | apply pw_below_drewN | apply below_drew1 | refine below_set ?_ GE272.out) | exact HB.out)⟩⟩
  case round =>
    clear H'
    try clear p2
    try clear c3
    try clear c4
    obtain ⟨x13_1, x14_1, rfl, HA, HK1, HO_13, BK272, HB⟩ := hrel
    cases gk with
    | zero => exact absurd HA.out (by simp [laws_compareDue.l0])
    | succ k1 =>
      have H := HA.out
      clear HA
      simp only [laws_compareDue.l0] at H
      by_cases c8 : x14_1 < a5
      · rw [if_pos c8] at H
        have c8b0 : decide (x14_1 < a5) = true := decide_eq_true c8
        clear c8
        replace H := Option.bind_eq_some_iff.mp H
        obtain ⟨⟨t273, t274⟩, A90, H⟩ := H
        replace H : (if 0 ≤ t273 then (if t273 < (l3.length : Int) then ((spec_NotNumber.f a0_0 a0_1 a0_2 a0_3 a0_4 a0_5 a0_6 a0_7 l0_8 l0_9 ((rd_T52 l3 t273).f0) ((rd_T52 l3 t273).f1) ((rd_T52 l3 t273).f2) ((rd_T52 l3 t273).f3)).bind fun t276 => (if t276 = true then (laws_compareDue.j1 k1 a1 a2 l3 l4 a5 x13_1 x14_1 t273 t274 true a0_0 a0_1 a0_2 a0_3 a0_4 a0_5 a0_6 a0_7 l0_8 l0_9) else (if 0 ≤ t274 then (if t274 < (l4.length : Int) then ((spec_NotNumber.f a0_0 a0_1 a0_2 a0_3 a0_4 a0_5 a0_6 a0_7 l0_8 l0_9 ((rd_T52 l4 t274).f0) ((rd_T52 l4 t274).f1) ((rd_T52 l4 t274).f2) ((rd_T52 l4 t274).f3)).bind fun t278 => (laws_compareDue.j1 k1 a1 a2 l3 l4 a5 x13_1 x14_1 t273 t274 t278 a0_0 a0_1 a0_2 a0_3 a0_4 a0_5 a0_6 a0_7 l0_8 l0_9)) else (none)) else (none)))) else (none)) else (none)) = some r := H
        have A9 := Aside0.mk A90
        clear A90
        have HC10 := Aside0.mk H
        clear H
        go_upto_region 6 with (first | ((with_reducible refine gate_callee (f := 18) rfl ?_); refine goesL_ (some 27) rfl rfl Tryz.func18 (by kernel_rfl) rfl #[.int .i64 a2, .int .i64 x14_1] rfl (by (try simp only [List.map_toArray, List.map_cons, List.map_nil]); first | done | rfl | (simp only [List.length_drop, List.length_take]; rfl)) ?_; (with_reducible refine (laws_place2.calls a2 x14_1 t273 t274 _ A9.out).mono ?_); rintro e w' ⟨rfl, ⟨nd, rfl⟩⟩; refine ⟨_, rfl, ?_⟩))
        (try simp only [Act.put, List.setIfInBounds_toArray, List.set_cons_zero, List.set_cons_succ])
        have n0_ := Aside0.mk (Kd.R_drewN HO_13.out nd)
        have n1_ := Aside0.mk (blk_drewN BK272.out nd)
        have n2_ := Aside0.mk (pw_below_drewN HB.out nd)
        clear HO_13
        clear BK272
        clear HB
        have HO_13 := n0_
        have BK272 := n1_
        have HB := n2_
        clear n0_ n1_ n2_
        generalize wr.drewN nd = wr2 at HO_13 BK272 HB ⊢
        go_cut [17] (fun v17 wc => ∃ (kq : Nat) (x17_9 : Bool), v17 = .bool x17_9 ∧ Aside0 (laws_compareDue.j1 kq a1 a2 l3 l4 a5 x13_1 x14_1 t273 t274 x17_9 a0_0 a0_1 a0_2 a0_3 a0_4 a0_5 a0_6 a0_7 l0_8 l0_9 = some r) ∧ Aside0 (kq ≤ k1) ∧ Aside0 (Kd.R Kd.bool 4 wc w.heap.size (fun _ => True) u13 x13_1) ∧ Aside0 (wc.heap[gb272]? = some (.cells #[.int .i64 a0_0, .int .i64 a0_1, .bool a0_2, .int .i64 a0_3, .int .i64 a0_4, .int .i64 a0_5, .string a0_6, .bool a0_7, (.slice A0_8 l0_8.length c0_8), (.slice A0_9 l0_9.length c0_9)] 35 (0, 0))) ∧ Aside0 (Below w.heap.size w wc))
        case first =>
          have H := HC10.out
          clear HC10
          by_cases c11 : 0 ≤ t273
          · rw [if_pos c11] at H
            have c11b0 : decide (0 ≤ t273) = true := decide_eq_true c11
            clear c11
            (first | rw [c11b0] | (simp only [i64_w, i32_w]; rw [c11b0]) | skip)
            by_cases c12 : t273 < (l3.length : Int)
            · rw [if_pos c12] at H
              have c12b0 : decide (t273 < (l3.length : Int)) = true := decide_eq_true c12
              clear c12
              replace H := Option.bind_eq_some_iff.mp H
              obtain ⟨t276, A130, H⟩ := H
              replace H : (if t276 = true then (laws_compareDue.j1 k1 a1 a2 l3 l4 a5 x13_1 x14_1 t273 t274 true a0_0 a0_1 a0_2 a0_3 a0_4 a0_5 a0_6 a0_7 l0_8 l0_9) else (if 0 ≤ t274 then (if t274 < (l4.length : Int) then ((spec_NotNumber.f a0_0 a0_1 a0_2 a0_3 a0_4 a0_5 a0_6 a0_7 l0_8 l0_9 ((rd_T52 l4 t274).f0) ((rd_T52 l4 t274).f1) ((rd_T52 l4 t274).f2) ((rd_T52 l4 t274).f3)).bind fun t278 => (laws_compareDue.j1 k1 a1 a2 l3 l4 a5 x13_1 x14_1 t273 t274 t278 a0_0 a0_1 a0_2 a0_3 a0_4 a0_5 a0_6 a0_7 l0_8 l0_9)) else (none)) else (none))) = some r := H
              have A13 := Aside0.mk A130
              clear A130
              by_cases c14 : t276 = true
              · subst c14
                have H1 : (laws_compareDue.j1 k1 a1 a2 l3 l4 a5 x13_1 x14_1 t273 t274 true a0_0 a0_1 a0_2 a0_3 a0_4 a0_5 a0_6 a0_7 l0_8 l0_9) = some r := by rw [if_pos rfl] at H; exact H
                clear H
                have H := H1
                clear H1
                have H' := Aside0.mk H
                clear H
                try go_wp2
                have n0_ := Aside0.mk (Kd.R_drew HO_13.out)
                have n1_ := Aside0.mk (blk_drew BK272.out)
                have n2_ := Aside0.mk (below_drew1 HB.out)
                clear HO_13
                clear BK272
                clear HB
                have HO_13 := n0_
                have BK272 := n1_
                have HB := n2_
                clear n0_ n1_ n2_
                have p275 : 0 ≤ (t273 : Int) := of_decide_eq_true (by first | (with_reducible assumption) | assumption)
                have q275 : t273 < (l3.length : Int) := of_decide_eq_true (by first | (with_reducible assumption) | assumption)
                obtain ⟨ad275, A275_3, c275_3, e275, hx275_0, hx275_1, hx275_2, hx275_3, hl275_3, hi275_3⟩ := at_T52 HR3.out t273 p275 q275
                have hw275_3 := hx275_3
                have hw275_2 := hx275_2
                have hw275_1 := hx275_1
                have hw275_0 := hx275_0
                cases e275
                replace hx275_0 := (HB.out.cell (World.block_lt_of_cell? w _ hx275_0)).trans hx275_0
                replace hx275_1 := (HB.out.cell (World.block_lt_of_cell? w _ hx275_1)).trans hx275_1
                replace hx275_2 := (HB.out.cell (World.block_lt_of_cell? w _ hx275_2)).trans hx275_2
                replace hx275_3 := (HB.out.cell (World.block_lt_of_cell? w _ hx275_3)).trans hx275_3
                have HR275_3 := Aside0.mk hi275_3
                have HC275_3 := Aside0.mk hl275_3
                clear hi275_3 hl275_3
                replace p275 := eq_true p275
                replace q275 := eq_true q275
                refine start_ (n := 15) (S := fun w' => w'.cell? ⟨gb272, 0, none⟩ = some (.int .i64 a0_0) ∧ w'.cell? ⟨gb272, 1, none⟩ = some (.int .i64 a0_1) ∧ w'.cell? ⟨gb272, 2, none⟩ = some (.bool a0_2) ∧ w'.cell? ⟨gb272, 3, none⟩ = some (.int .i64 a0_3) ∧ w'.cell? ⟨gb272, 4, none⟩ = some (.int .i64 a0_4) ∧ w'.cell? ⟨gb272, 5, none⟩ = some (.int .i64 a0_5) ∧ w'.cell? ⟨gb272, 6, none⟩ = some (.string a0_6) ∧ w'.cell? ⟨gb272, 7, none⟩ = some (.bool a0_7) ∧ w'.cell? ⟨gb272, 8, none⟩ = some (.slice A0_8 l0_8.length c0_8) ∧ w'.cell? ⟨gb272, 9, none⟩ = some (.slice A0_9 l0_9.length c0_9) ∧ w'.cell? (ad275.add ((t273).toNat * 4)) = some (.bool ((rd_T52 l3 t273).f0)) ∧ w'.cell? ⟨(ad275.add ((t273).toNat * 4)).block, (ad275.add ((t273).toNat * 4)).off + 1, none⟩ = some (.int .u64 ((rd_T52 l3 t273).f1)) ∧ w'.cell? ⟨(ad275.add ((t273).toNat * 4)).block, (ad275.add ((t273).toNat * 4)).off + 2, none⟩ = some (.string ((rd_T52 l3 t273).f2)) ∧ w'.cell? ⟨(ad275.add ((t273).toNat * 4)).block, (ad275.add ((t273).toNat * 4)).off + 3, none⟩ = some (.slice A275_3 ((rd_T52 l3 t273).f3).length c275_3)) (ds := []) #[false, false, false, false, false, false, false, false, false, false, false, false, false, false, false] (by kernel_rfl) rfl rfl ⟨(blk_cell BK272.out 0).trans rfl, (blk_cell BK272.out 1).trans rfl, (blk_cell BK272.out 2).trans rfl, (blk_cell BK272.out 3).trans rfl, (blk_cell BK272.out 4).trans rfl, (blk_cell BK272.out 5).trans rfl, (blk_cell BK272.out 6).trans rfl, (blk_cell BK272.out 7).trans rfl, (blk_cell BK272.out 8).trans rfl, (blk_cell BK272.out 9).trans rfl, ((HB.out.cell (World.block_lt_of_cell? w _ hw275_0)).trans hw275_0), ((HB.out.cell (World.block_lt_of_cell? w _ hw275_1)).trans hw275_1), ((HB.out.cell (World.block_lt_of_cell? w _ hw275_2)).trans hw275_2), ((HB.out.cell (World.block_lt_of_cell? w _ hw275_3)).trans hw275_3)⟩ (fun hHeld => ?_); refine with_tabW laws_compareDue.tab6 laws_compareDue.bits6 (fun HT_ HW_ => ?_)
                generalize wr2.drew = w15 at HO_13 BK272 HB HR275_3 hx275_0 hx275_1 hx275_2 hx275_3 hHeld ⊢
                refine pure_ (i := 1) (N := some 31) (v := ?_) (a' := ?_) #[false, true, false, false, false, false, false, false, false, false, false, false, false, false, false] rfl rfl (any_of HT_.out (by kernel_rfl)) (fun _ _ _ h => h) (Or.inl ⟨by rfl, ?_⟩) ?_ ?_
                rotate_left
                · intro w'
                  go_simp
                  with_reducible rfl
                rotate_left
                · simp only [Act.put, List.setIfInBounds_toArray, List.set_cons_zero, List.set_cons_succ, i64_w, i32_w]
                  rfl
                refine pure_ (i := 2) (N := some 32) (v := ?_) (a' := ?_) #[false, true, true, false, false, false, false, false, false, false, false, false, false, false, false] rfl rfl (any_of HT_.out (by kernel_rfl)) (fun _ _ _ h => h) (Or.inl ⟨by rfl, ?_⟩) ?_ ?_
                rotate_left
                · intro w'
                  go_simp
                  with_reducible rfl
                rotate_left
                · simp only [Act.put, List.setIfInBounds_toArray, List.set_cons_zero, List.set_cons_succ, i64_w, i32_w]
                  rfl
                refine pure_ (i := 3) (N := some 33) (v := ?_) (a' := ?_) #[false, true, true, true, false, false, false, false, false, false, false, false, false, false, false] rfl rfl (any_of HT_.out (by kernel_rfl)) (fun _ _ _ h => h) (Or.inl ⟨by rfl, ?_⟩) ?_ ?_
                rotate_left
                · intro w'
                  go_simp
                  with_reducible rfl
                rotate_left
                · simp only [Act.put, List.setIfInBounds_toArray, List.set_cons_zero, List.set_cons_succ, i64_w, i32_w]
                  rfl
                refine take_ (i := 0) (N := some 30) (v := ?_) (a' := ?_) #[true, true, true, true, false, false, false, false, false, false, false, false, false, false, false] rfl rfl (take_ofW HT_.out HW_.out (by kernel_rfl)) (fun _ _ _ h => h) (Or.inl ⟨by rfl, ?_⟩) hHeld ?_ ?_
                rotate_left
                · rintro w' ⟨s0, s1, s2, s3, s4, s5, s6, s7, s8, s9, s10, s11, s12, s13⟩
                  go_simp
                  with_reducible rfl
                rotate_left
                · simp only [Act.put, List.setIfInBounds_toArray, List.set_cons_zero, List.set_cons_succ, i64_w, i32_w]
                  rfl
                refine take_ (i := 4) (N := some 34) (v := ?_) (a' := ?_) #[true, true, true, true, true, false, false, false, false, false, false, false, false, false, false] rfl rfl (take_ofW HT_.out HW_.out (by kernel_rfl)) (fun _ _ _ h => h) (Or.inl ⟨by rfl, ?_⟩) hHeld ?_ ?_
                rotate_left
                · rintro w' ⟨s0, s1, s2, s3, s4, s5, s6, s7, s8, s9, s10, s11, s12, s13⟩
                  go_simp
                  with_reducible rfl
                rotate_left
                · simp only [Act.put, List.setIfInBounds_toArray, List.set_cons_zero, List.set_cons_succ, i64_w, i32_w]
                  rfl
                refine one_ (i := 5) (N := some 35) #[true, true, true, true, true, true, false, false, false, false, false, false, false, false, false] rfl rfl (one_of HT_.out (by kernel_rfl)) (by decide) (fun K hK => ?_)
                refine goes_ Tryz.func19 (by kernel_rfl) rfl #[.agg #[.int .i64 a0_0, .int .i64 a0_1, .bool a0_2, .int .i64 a0_3, .int .i64 a0_4, .int .i64 a0_5, .string a0_6, .bool a0_7, .slice A0_8 l0_8.length c0_8, .slice A0_9 l0_9.length c0_9], .agg #[.bool ((rd_T52 l3 t273).f0), .int .u64 ((rd_T52 l3 t273).f1), .string ((rd_T52 l3 t273).f2), .slice A275_3 ((rd_T52 l3 t273).f3).length c275_3]] (by rfl) rfl rfl (by (try simp only [List.map_toArray, List.map_cons, List.map_nil]); first | done | rfl | (simp only [List.length_drop, List.length_take]; rfl)) ?_
                with_reducible refine (spec_NotNumber.calls a0_0 a0_1 a0_2 a0_3 a0_4 a0_5 a0_6 a0_7 _ _ l0_8 _ _ l0_9 ((rd_T52 l3 t273).f0) ((rd_T52 l3 t273).f1) ((rd_T52 l3 t273).f2) _ _ ((rd_T52 l3 t273).f3) true _ ?side1 ?side2 ?side3 ?side4 ?side5 ?side6 A13.out).mono ?_
                (case side1 => repeat (first | exact (Kd.C_below HR0_8.out HB.out) | (with_reducible refine Kd.C_alloc ?_ _) | (with_reducible refine Kd.C_drewN ?_ _) | (with_reducible refine Kd.C_drew ?_)))
                (case side2 => exact HC0_8.out)
                (case side3 => repeat (first | exact (Kd.C_below HR0_9.out HB.out) | (with_reducible refine Kd.C_alloc ?_ _) | (with_reducible refine Kd.C_drewN ?_ _) | (with_reducible refine Kd.C_drew ?_)))
                (case side4 => exact HC0_9.out)
                (case side5 => repeat (first | exact (Kd.C_below HR275_3.out HB.out) | (with_reducible refine Kd.C_alloc ?_ _) | (with_reducible refine Kd.C_drewN ?_ _) | (with_reducible refine Kd.C_drew ?_)))
                (case side6 => exact HC275_3.out)
                rintro e w16 ⟨rfl, hb⟩
                refine ⟨_, rfl, ?_⟩
                have n0_ := Aside0.mk (Kd.R_below (by (with_reducible repeat (first | apply Kd.R_alloc | apply Kd.R_drewN | apply Kd.R_drew)); exact HO_13.out) hb)
                have n1_ := Aside0.mk (blk_below (g := gb272) (o := .cells #[.int .i64 a0_0, .int .i64 a0_1, .bool a0_2, .int .i64 a0_3, .int .i64 a0_4, .int .i64 a0_5, .string a0_6, .bool a0_7, .slice A0_8 l0_8.length c0_8, .slice A0_9 l0_9.length c0_9] 35 (0, 0)) (by (with_reducible repeat (first | refine blk_drewN ?_ _ | refine blk_drew ?_ | refine blk_alloc ?_ _)); exact BK272.out) hb)
                have n2_ := Aside0.mk (below_step (by repeat (first | (with_reducible first | exact HB.out | apply below_alloc | apply pw_below_drewN | apply below_drew1 | refine below_set ?_ GE272.out) | exact HB.out)) hb)
                clear HO_13
                clear BK272
                clear HB
                have HO_13 := n0_
                have BK272 := n1_
                have HB := n2_
                clear n0_ n1_ n2_
                (try clear hb)
                (try clear hb2)
                (try clear hk)
                (try clear hi)
                refine hK.out _ _ ⟨(blk_cell BK272.out 0).trans rfl, (blk_cell BK272.out 1).trans rfl, (blk_cell BK272.out 2).trans rfl, (blk_cell BK272.out 3).trans rfl, (blk_cell BK272.out 4).trans rfl, (blk_cell BK272.out 5).trans rfl, (blk_cell BK272.out 6).trans rfl, (blk_cell BK272.out 7).trans rfl, (blk_cell BK272.out 8).trans rfl, (blk_cell BK272.out 9).trans rfl, ((HB.out.cell (World.block_lt_of_cell? w _ hw275_0)).trans hw275_0), ((HB.out.cell (World.block_lt_of_cell? w _ hw275_1)).trans hw275_1), ((HB.out.cell (World.block_lt_of_cell? w _ hw275_2)).trans hw275_2), ((HB.out.cell (World.block_lt_of_cell? w _ hw275_3)).trans hw275_3)⟩ (fun hHeld => ?_)
                clear hK K
                refine norm_ (a' := ?_) ?_ ?_
                rotate_left
                · show Act.put _ (some 35) _ = _
                  simp only [Act.put, List.setIfInBounds_toArray, List.set_cons_zero, List.set_cons_succ, i64_w, i32_w]
                  rfl
                refine pure_ (i := 6) (N := some 36) (v := ?_) (a' := ?_) #[true, true, true, true, true, true, true, false, false, false, false, false, false, false, false] rfl rfl (any_of HT_.out (by kernel_rfl)) (fun _ _ _ h => h) (Or.inl ⟨by rfl, ?_⟩) ?_ ?_
                rotate_left
                · intro w'
                  go_simp
                  with_reducible rfl
                rotate_left
                · simp only [Act.put, List.setIfInBounds_toArray, List.set_cons_zero, List.set_cons_succ, i64_w, i32_w]
                  rfl
                refine pure_ (i := 7) (N := some 37) (v := undef) (a' := ?_) #[true, true, true, true, true, true, true, true, false, false, false, false, false, false, false] rfl rfl (any_of HT_.out (by kernel_rfl)) (fun _ _ _ h => h) (Or.inr ⟨by rfl, rfl⟩) ?_ ?_
                rotate_left
                · simp only [Act.put, List.setIfInBounds_toArray, List.set_cons_zero, List.set_cons_succ, i64_w, i32_w]
                  rfl
                refine pure_ (i := 8) (N := some 38) (v := undef) (a' := ?_) #[true, true, true, true, true, true, true, true, true, false, false, false, false, false, false] rfl rfl (any_of HT_.out (by kernel_rfl)) (fun _ _ _ h => h) (Or.inr ⟨by rfl, rfl⟩) ?_ ?_
                rotate_left
                · simp only [Act.put, List.setIfInBounds_toArray, List.set_cons_zero, List.set_cons_succ, i64_w, i32_w]
                  rfl
                refine pure_ (i := 9) (N := some 39) (v := undef) (a' := ?_) #[true, true, true, true, true, true, true, true, true, true, false, false, false, false, false] rfl rfl (any_of HT_.out (by kernel_rfl)) (fun _ _ _ h => h) (Or.inr ⟨by rfl, rfl⟩) ?_ ?_
                rotate_left
                · simp only [Act.put, List.setIfInBounds_toArray, List.set_cons_zero, List.set_cons_succ, i64_w, i32_w]
                  rfl
                refine pure_ (i := 10) (N := some 40) (v := undef) (a' := ?_) #[true, true, true, true, true, true, true, true, true, true, true, false, false, false, false] rfl rfl (any_of HT_.out (by kernel_rfl)) (fun _ _ _ h => h) (Or.inr ⟨by rfl, rfl⟩) ?_ ?_
                rotate_left
                · simp only [Act.put, List.setIfInBounds_toArray, List.set_cons_zero, List.set_cons_succ, i64_w, i32_w]
                  rfl
                refine pure_ (i := 11) (N := some 41) (v := undef) (a' := ?_) #[true, true, true, true, true, true, true, true, true, true, true, true, false, false, false] rfl rfl (any_of HT_.out (by kernel_rfl)) (fun _ _ _ h => h) (Or.inr ⟨by rfl, rfl⟩) ?_ ?_
                rotate_left
                · simp only [Act.put, List.setIfInBounds_toArray, List.set_cons_zero, List.set_cons_succ, i64_w, i32_w]
                  rfl
                refine pure_ (i := 12) (N := some 42) (v := undef) (a' := ?_) #[true, true, true, true, true, true, true, true, true, true, true, true, true, false, false] rfl rfl (any_of HT_.out (by kernel_rfl)) (fun _ _ _ h => h) (Or.inr ⟨by rfl, rfl⟩) ?_ ?_
                rotate_left
                · simp only [Act.put, List.setIfInBounds_toArray, List.set_cons_zero, List.set_cons_succ, i64_w, i32_w]
                  rfl
                refine pure_ (i := 13) (N := some 43) (v := ?_) (a' := ?_) #[true, true, true, true, true, true, true, true, true, true, true, true, true, true, false] rfl rfl (any_of HT_.out (by kernel_rfl)) (fun _ _ _ h => h) (Or.inl ⟨by rfl, ?_⟩) ?_ ?_
                rotate_left
                · intro w'
                  go_simp
                  with_reducible rfl
                rotate_left
                · simp only [Act.put, List.setIfInBounds_toArray, List.set_cons_zero, List.set_cons_succ, i64_w, i32_w]
                  rfl
                refine pure_ (i := 14) (N := some 17) (v := ?_) (a' := ?_) #[true, true, true, true, true, true, true, true, true, true, true, true, true, true, true] rfl rfl (any_of HT_.out (by kernel_rfl)) (fun _ _ _ h => h) (Or.inl ⟨by rfl, ?_⟩) ?_ ?_
                rotate_left
                · intro w'
                  go_simp
                  with_reducible rfl
                rotate_left
                · simp only [Act.put, List.setIfInBounds_toArray, List.set_cons_zero, List.set_cons_succ, i64_w, i32_w]
                  rfl
                refine done_ (done_of HT_.out (by kernel_rfl)) ?_
                try go_wp2
                go_meet
                case rel => exact ⟨_, (true), (by first | rfl | (simp; done) | (simp [*]; done)), H', ⟨by have := HK1.out; first | omega | exact Nat.le_refl _⟩, ⟨by (with_reducible repeat (first | apply Kd.R_alloc | apply Kd.R_drewN | apply Kd.R_drew)); exact HO_13.out⟩, ⟨by (with_reducible repeat (first | refine blk_drewN ?_ _ | refine blk_drew ?_ | refine blk_alloc ?_ _)); exact BK272.out⟩, ⟨by repeat (first | (with_reducible first | exact HB.out | apply below_alloc | apply pw_below_drewN | apply below_drew1 | refine below_set ?_ GE272.out) | exact HB.out)⟩⟩
              · replace c14 := Bool.eq_false_iff.mpr c14
                subst c14
                have H1 : (if 0 ≤ t274 then (if t274 < (l4.length : Int) then ((spec_NotNumber.f a0_0 a0_1 a0_2 a0_3 a0_4 a0_5 a0_6 a0_7 l0_8 l0_9 ((rd_T52 l4 t274).f0) ((rd_T52 l4 t274).f1) ((rd_T52 l4 t274).f2) ((rd_T52 l4 t274).f3)).bind fun t278 => (laws_compareDue.j1 k1 a1 a2 l3 l4 a5 x13_1 x14_1 t273 t274 t278 a0_0 a0_1 a0_2 a0_3 a0_4 a0_5 a0_6 a0_7 l0_8 l0_9)) else (none)) else (none)) = some r := by rw [if_neg (show ¬ (false = true) by decide)] at H; exact H
                clear H
                have H := H1
                clear H1
                by_cases c17 : 0 ≤ t274
                · rw [if_pos c17] at H
                  have c17b0 : decide (0 ≤ t274) = true := decide_eq_true c17
                  clear c17
                  by_cases c18 : t274 < (l4.length : Int)
                  · rw [if_pos c18] at H
                    have c18b0 : decide (t274 < (l4.length : Int)) = true := decide_eq_true c18
                    clear c18
                    replace H := Option.bind_eq_some_iff.mp H
                    obtain ⟨t278, A190, H⟩ := H
                    replace H : (laws_compareDue.j1 k1 a1 a2 l3 l4 a5 x13_1 x14_1 t273 t274 t278 a0_0 a0_1 a0_2 a0_3 a0_4 a0_5 a0_6 a0_7 l0_8 l0_9) = some r := H
                    have A19 := Aside0.mk A190
                    clear A190
                    have H' := Aside0.mk H
                    clear H
                    try go_wp2
                    have n0_ := Aside0.mk (Kd.R_drew HO_13.out)
                    have n1_ := Aside0.mk (blk_drew BK272.out)
                    have n2_ := Aside0.mk (below_drew1 HB.out)
                    clear HO_13
                    clear BK272
                    clear HB
                    have HO_13 := n0_
                    have BK272 := n1_
                    have HB := n2_
                    clear n0_ n1_ n2_
                    have p275 : 0 ≤ (t273 : Int) := of_decide_eq_true (by first | (with_reducible assumption) | assumption)
                    have q275 : t273 < (l3.length : Int) := of_decide_eq_true (by first | (with_reducible assumption) | assumption)
                    obtain ⟨ad275, A275_3, c275_3, e275, hx275_0, hx275_1, hx275_2, hx275_3, hl275_3, hi275_3⟩ := at_T52 HR3.out t273 p275 q275
                    have hw275_3 := hx275_3
                    have hw275_2 := hx275_2
                    have hw275_1 := hx275_1
                    have hw275_0 := hx275_0
                    cases e275
                    replace hx275_0 := (HB.out.cell (World.block_lt_of_cell? w _ hx275_0)).trans hx275_0
                    replace hx275_1 := (HB.out.cell (World.block_lt_of_cell? w _ hx275_1)).trans hx275_1
                    replace hx275_2 := (HB.out.cell (World.block_lt_of_cell? w _ hx275_2)).trans hx275_2
                    replace hx275_3 := (HB.out.cell (World.block_lt_of_cell? w _ hx275_3)).trans hx275_3
                    have HR275_3 := Aside0.mk hi275_3
                    have HC275_3 := Aside0.mk hl275_3
                    clear hi275_3 hl275_3
                    replace p275 := eq_true p275
                    replace q275 := eq_true q275
                    have p277 : 0 ≤ (t274 : Int) := of_decide_eq_true (by first | (with_reducible assumption) | assumption)
                    have q277 : t274 < (l4.length : Int) := of_decide_eq_true (by first | (with_reducible assumption) | assumption)
                    obtain ⟨ad277, A277_3, c277_3, e277, hx277_0, hx277_1, hx277_2, hx277_3, hl277_3, hi277_3⟩ := at_T52 HR4.out t274 p277 q277
                    have hw277_3 := hx277_3
                    have hw277_2 := hx277_2
                    have hw277_1 := hx277_1
                    have hw277_0 := hx277_0
                    cases e277
                    replace hx277_0 := (HB.out.cell (World.block_lt_of_cell? w _ hx277_0)).trans hx277_0
                    replace hx277_1 := (HB.out.cell (World.block_lt_of_cell? w _ hx277_1)).trans hx277_1
                    replace hx277_2 := (HB.out.cell (World.block_lt_of_cell? w _ hx277_2)).trans hx277_2
                    replace hx277_3 := (HB.out.cell (World.block_lt_of_cell? w _ hx277_3)).trans hx277_3
                    have HR277_3 := Aside0.mk hi277_3
                    have HC277_3 := Aside0.mk hl277_3
                    clear hi277_3 hl277_3
                    replace p277 := eq_true p277
                    replace q277 := eq_true q277
                    refine start_ (n := 15) (S := fun w' => w'.cell? ⟨gb272, 0, none⟩ = some (.int .i64 a0_0) ∧ w'.cell? ⟨gb272, 1, none⟩ = some (.int .i64 a0_1) ∧ w'.cell? ⟨gb272, 2, none⟩ = some (.bool a0_2) ∧ w'.cell? ⟨gb272, 3, none⟩ = some (.int .i64 a0_3) ∧ w'.cell? ⟨gb272, 4, none⟩ = some (.int .i64 a0_4) ∧ w'.cell? ⟨gb272, 5, none⟩ = some (.int .i64 a0_5) ∧ w'.cell? ⟨gb272, 6, none⟩ = some (.string a0_6) ∧ w'.cell? ⟨gb272, 7, none⟩ = some (.bool a0_7) ∧ w'.cell? ⟨gb272, 8, none⟩ = some (.slice A0_8 l0_8.length c0_8) ∧ w'.cell? ⟨gb272, 9, none⟩ = some (.slice A0_9 l0_9.length c0_9) ∧ w'.cell? (ad275.add ((t273).toNat * 4)) = some (.bool ((rd_T52 l3 t273).f0)) ∧ w'.cell? ⟨(ad275.add ((t273).toNat * 4)).block, (ad275.add ((t273).toNat * 4)).off + 1, none⟩ = some (.int .u64 ((rd_T52 l3 t273).f1)) ∧ w'.cell? ⟨(ad275.add ((t273).toNat * 4)).block, (ad275.add ((t273).toNat * 4)).off + 2, none⟩ = some (.string ((rd_T52 l3 t273).f2)) ∧ w'.cell? ⟨(ad275.add ((t273).toNat * 4)).block, (ad275.add ((t273).toNat * 4)).off + 3, none⟩ = some (.slice A275_3 ((rd_T52 l3 t273).f3).length c275_3) ∧ w'.cell? (ad277.add ((t274).toNat * 4)) = some (.bool ((rd_T52 l4 t274).f0)) ∧ w'.cell? ⟨(ad277.add ((t274).toNat * 4)).block, (ad277.add ((t274).toNat * 4)).off + 1, none⟩ = some (.int .u64 ((rd_T52 l4 t274).f1)) ∧ w'.cell? ⟨(ad277.add ((t274).toNat * 4)).block, (ad277.add ((t274).toNat * 4)).off + 2, none⟩ = some (.string ((rd_T52 l4 t274).f2)) ∧ w'.cell? ⟨(ad277.add ((t274).toNat * 4)).block, (ad277.add ((t274).toNat * 4)).off + 3, none⟩ = some (.slice A277_3 ((rd_T52 l4 t274).f3).length c277_3)) (ds := []) #[false, false, false, false, false, false, false, false, false, false, false, false, false, false, false] (by kernel_rfl) rfl rfl ⟨(blk_cell BK272.out 0).trans rfl, (blk_cell BK272.out 1).trans rfl, (blk_cell BK272.out 2).trans rfl, (blk_cell BK272.out 3).trans rfl, (blk_cell BK272.out 4).trans rfl, (blk_cell BK272.out 5).trans rfl, (blk_cell BK272.out 6).trans rfl, (blk_cell BK272.out 7).trans rfl, (blk_cell BK272.out 8).trans rfl, (blk_cell BK272.out 9).trans rfl, ((HB.out.cell (World.block_lt_of_cell? w _ hw275_0)).trans hw275_0), ((HB.out.cell (World.block_lt_of_cell? w _ hw275_1)).trans hw275_1), ((HB.out.cell (World.block_lt_of_cell? w _ hw275_2)).trans hw275_2), ((HB.out.cell (World.block_lt_of_cell? w _ hw275_3)).trans hw275_3), ((HB.out.cell (World.block_lt_of_cell? w _ hw277_0)).trans hw277_0), ((HB.out.cell (World.block_lt_of_cell? w _ hw277_1)).trans hw277_1), ((HB.out.cell (World.block_lt_of_cell? w _ hw277_2)).trans hw277_2), ((HB.out.cell (World.block_lt_of_cell? w _ hw277_3)).trans hw277_3)⟩ (fun hHeld => ?_); refine with_tabW laws_compareDue.tab6 laws_compareDue.bits6 (fun HT_ HW_ => ?_)
                    generalize wr2.drew = w20 at HO_13 BK272 HB HR275_3 HR277_3 hx275_0 hx275_1 hx275_2 hx275_3 hx277_0 hx277_1 hx277_2 hx277_3 hHeld ⊢
                    refine pure_ (i := 1) (N := some 31) (v := ?_) (a' := ?_) #[false, true, false, false, false, false, false, false, false, false, false, false, false, false, false] rfl rfl (any_of HT_.out (by kernel_rfl)) (fun _ _ _ h => h) (Or.inl ⟨by rfl, ?_⟩) ?_ ?_
                    rotate_left
                    · intro w'
                      go_simp
                      with_reducible rfl
                    rotate_left
                    · simp only [Act.put, List.setIfInBounds_toArray, List.set_cons_zero, List.set_cons_succ, i64_w, i32_w]
                      rfl
                    refine pure_ (i := 2) (N := some 32) (v := ?_) (a' := ?_) #[false, true, true, false, false, false, false, false, false, false, false, false, false, false, false] rfl rfl (any_of HT_.out (by kernel_rfl)) (fun _ _ _ h => h) (Or.inl ⟨by rfl, ?_⟩) ?_ ?_
                    rotate_left
                    · intro w'
                      go_simp
                      with_reducible rfl
                    rotate_left
                    · simp only [Act.put, List.setIfInBounds_toArray, List.set_cons_zero, List.set_cons_succ, i64_w, i32_w]
                      rfl
                    refine pure_ (i := 3) (N := some 33) (v := ?_) (a' := ?_) #[false, true, true, true, false, false, false, false, false, false, false, false, false, false, false] rfl rfl (any_of HT_.out (by kernel_rfl)) (fun _ _ _ h => h) (Or.inl ⟨by rfl, ?_⟩) ?_ ?_
                    rotate_left
                    · intro w'
                      go_simp
                      with_reducible rfl
                    rotate_left
                    · simp only [Act.put, List.setIfInBounds_toArray, List.set_cons_zero, List.set_cons_succ, i64_w, i32_w]
                      rfl
                    refine take_ (i := 0) (N := some 30) (v := ?_) (a' := ?_) #[true, true, true, true, false, false, false, false, false, false, false, false, false, false, false] rfl rfl (take_ofW HT_.out HW_.out (by kernel_rfl)) (fun _ _ _ h => h) (Or.inl ⟨by rfl, ?_⟩) hHeld ?_ ?_
                    rotate_left
                    · rintro w' ⟨s0, s1, s2, s3, s4, s5, s6, s7, s8, s9, s10, s11, s12, s13, s14, s15, s16, s17⟩
                      go_simp
                      with_reducible rfl
                    rotate_left
                    · simp only [Act.put, List.setIfInBounds_toArray, List.set_cons_zero, List.set_cons_succ, i64_w, i32_w]
                      rfl
                    refine take_ (i := 4) (N := some 34) (v := ?_) (a' := ?_) #[true, true, true, true, true, false, false, false, false, false, false, false, false, false, false] rfl rfl (take_ofW HT_.out HW_.out (by kernel_rfl)) (fun _ _ _ h => h) (Or.inl ⟨by rfl, ?_⟩) hHeld ?_ ?_
                    rotate_left
                    · rintro w' ⟨s0, s1, s2, s3, s4, s5, s6, s7, s8, s9, s10, s11, s12, s13, s14, s15, s16, s17⟩
                      go_simp
                      with_reducible rfl
                    rotate_left
                    · simp only [Act.put, List.setIfInBounds_toArray, List.set_cons_zero, List.set_cons_succ, i64_w, i32_w]
                      rfl
                    refine one_ (i := 5) (N := some 35) #[true, true, true, true, true, true, false, false, false, false, false, false, false, false, false] rfl rfl (one_of HT_.out (by kernel_rfl)) (by decide) (fun K hK => ?_)
                    refine goes_ Tryz.func19 (by kernel_rfl) rfl #[.agg #[.int .i64 a0_0, .int .i64 a0_1, .bool a0_2, .int .i64 a0_3, .int .i64 a0_4, .int .i64 a0_5, .string a0_6, .bool a0_7, .slice A0_8 l0_8.length c0_8, .slice A0_9 l0_9.length c0_9], .agg #[.bool ((rd_T52 l3 t273).f0), .int .u64 ((rd_T52 l3 t273).f1), .string ((rd_T52 l3 t273).f2), .slice A275_3 ((rd_T52 l3 t273).f3).length c275_3]] (by rfl) rfl rfl (by (try simp only [List.map_toArray, List.map_cons, List.map_nil]); first | done | rfl | (simp only [List.length_drop, List.length_take]; rfl)) ?_
                    with_reducible refine (spec_NotNumber.calls a0_0 a0_1 a0_2 a0_3 a0_4 a0_5 a0_6 a0_7 _ _ l0_8 _ _ l0_9 ((rd_T52 l3 t273).f0) ((rd_T52 l3 t273).f1) ((rd_T52 l3 t273).f2) _ _ ((rd_T52 l3 t273).f3) false _ ?side1 ?side2 ?side3 ?side4 ?side5 ?side6 A13.out).mono ?_
                    (case side1 => repeat (first | exact (Kd.C_below HR0_8.out HB.out) | (with_reducible refine Kd.C_alloc ?_ _) | (with_reducible refine Kd.C_drewN ?_ _) | (with_reducible refine Kd.C_drew ?_)))
                    (case side2 => exact HC0_8.out)
                    (case side3 => repeat (first | exact (Kd.C_below HR0_9.out HB.out) | (with_reducible refine Kd.C_alloc ?_ _) | (with_reducible refine Kd.C_drewN ?_ _) | (with_reducible refine Kd.C_drew ?_)))
                    (case side4 => exact HC0_9.out)
                    (case side5 => repeat (first | exact (Kd.C_below HR275_3.out HB.out) | (with_reducible refine Kd.C_alloc ?_ _) | (with_reducible refine Kd.C_drewN ?_ _) | (with_reducible refine Kd.C_drew ?_)))
                    (case side6 => exact HC275_3.out)
                    rintro e w21 ⟨rfl, hb⟩
                    refine ⟨_, rfl, ?_⟩
                    have n0_ := Aside0.mk (Kd.R_below (by (with_reducible repeat (first | apply Kd.R_alloc | apply Kd.R_drewN | apply Kd.R_drew)); exact HO_13.out) hb)
                    have n1_ := Aside0.mk (blk_below (g := gb272) (o := .cells #[.int .i64 a0_0, .int .i64 a0_1, .bool a0_2, .int .i64 a0_3, .int .i64 a0_4, .int .i64 a0_5, .string a0_6, .bool a0_7, .slice A0_8 l0_8.length c0_8, .slice A0_9 l0_9.length c0_9] 35 (0, 0)) (by (with_reducible repeat (first | refine blk_drewN ?_ _ | refine blk_drew ?_ | refine blk_alloc ?_ _)); exact BK272.out) hb)
                    have n2_ := Aside0.mk (below_step (by repeat (first | (with_reducible first | exact HB.out | apply below_alloc | apply pw_below_drewN | apply below_drew1 | refine below_set ?_ GE272.out) | exact HB.out)) hb)
                    clear HO_13
                    clear BK272
                    clear HB
                    have HO_13 := n0_
                    have BK272 := n1_
                    have HB := n2_
                    clear n0_ n1_ n2_
                    (try clear hb)
                    (try clear hb2)
                    (try clear hk)
                    (try clear hi)
                    refine hK.out _ _ ⟨(blk_cell BK272.out 0).trans rfl, (blk_cell BK272.out 1).trans rfl, (blk_cell BK272.out 2).trans rfl, (blk_cell BK272.out 3).trans rfl, (blk_cell BK272.out 4).trans rfl, (blk_cell BK272.out 5).trans rfl, (blk_cell BK272.out 6).trans rfl, (blk_cell BK272.out 7).trans rfl, (blk_cell BK272.out 8).trans rfl, (blk_cell BK272.out 9).trans rfl, ((HB.out.cell (World.block_lt_of_cell? w _ hw275_0)).trans hw275_0), ((HB.out.cell (World.block_lt_of_cell? w _ hw275_1)).trans hw275_1), ((HB.out.cell (World.block_lt_of_cell? w _ hw275_2)).trans hw275_2), ((HB.out.cell (World.block_lt_of_cell? w _ hw275_3)).trans hw275_3), ((HB.out.cell (World.block_lt_of_cell? w _ hw277_0)).trans hw277_0), ((HB.out.cell (World.block_lt_of_cell? w _ hw277_1)).trans hw277_1), ((HB.out.cell (World.block_lt_of_cell? w _ hw277_2)).trans hw277_2), ((HB.out.cell (World.block_lt_of_cell? w _ hw277_3)).trans hw277_3)⟩ (fun hHeld => ?_)
                    clear hK K
                    refine norm_ (a' := ?_) ?_ ?_
                    rotate_left
                    · show Act.put _ (some 35) _ = _
                      simp only [Act.put, List.setIfInBounds_toArray, List.set_cons_zero, List.set_cons_succ, i64_w, i32_w]
                      rfl
                    refine pure_ (i := 6) (N := some 36) (v := ?_) (a' := ?_) #[true, true, true, true, true, true, true, false, false, false, false, false, false, false, false] rfl rfl (any_of HT_.out (by kernel_rfl)) (fun _ _ _ h => h) (Or.inl ⟨by rfl, ?_⟩) ?_ ?_
                    rotate_left
                    · intro w'
                      go_simp
                      with_reducible rfl
                    rotate_left
                    · simp only [Act.put, List.setIfInBounds_toArray, List.set_cons_zero, List.set_cons_succ, i64_w, i32_w]
                      rfl
                    refine pure_ (i := 8) (N := some 38) (v := ?_) (a' := ?_) #[true, true, true, true, true, true, true, false, true, false, false, false, false, false, false] rfl rfl (any_of HT_.out (by kernel_rfl)) (fun _ _ _ h => h) (Or.inl ⟨by rfl, ?_⟩) ?_ ?_
                    rotate_left
                    · intro w'
                      go_simp
                      with_reducible rfl
                    rotate_left
                    · simp only [Act.put, List.setIfInBounds_toArray, List.set_cons_zero, List.set_cons_succ, i64_w, i32_w]
                      rfl
                    refine pure_ (i := 9) (N := some 39) (v := ?_) (a' := ?_) #[true, true, true, true, true, true, true, false, true, true, false, false, false, false, false] rfl rfl (any_of HT_.out (by kernel_rfl)) (fun _ _ _ h => h) (Or.inl ⟨by rfl, ?_⟩) ?_ ?_
                    rotate_left
                    · intro w'
                      go_simp
                      with_reducible rfl
                    rotate_left
                    · simp only [Act.put, List.setIfInBounds_toArray, List.set_cons_zero, List.set_cons_succ, i64_w, i32_w]
                      rfl
                    refine pure_ (i := 10) (N := some 40) (v := ?_) (a' := ?_) #[true, true, true, true, true, true, true, false, true, true, true, false, false, false, false] rfl rfl (any_of HT_.out (by kernel_rfl)) (fun _ _ _ h => h) (Or.inl ⟨by rfl, ?_⟩) ?_ ?_
                    rotate_left
                    · intro w'
                      go_simp
                      with_reducible rfl
                    rotate_left
                    · simp only [Act.put, List.setIfInBounds_toArray, List.set_cons_zero, List.set_cons_succ, i64_w, i32_w]
                      rfl
                    refine take_ (i := 7) (N := some 37) (v := ?_) (a' := ?_) #[true, true, true, true, true, true, true, true, true, true, true, false, false, false, false] rfl rfl (take_ofW HT_.out HW_.out (by kernel_rfl)) (fun _ _ _ h => h) (Or.inl ⟨by rfl, ?_⟩) hHeld ?_ ?_
                    rotate_left
                    · rintro w' ⟨s0, s1, s2, s3, s4, s5, s6, s7, s8, s9, s10, s11, s12, s13, s14, s15, s16, s17⟩
                      go_simp
                      with_reducible rfl
                    rotate_left
                    · simp only [Act.put, List.setIfInBounds_toArray, List.set_cons_zero, List.set_cons_succ, i64_w, i32_w]
                      rfl
                    refine take_ (i := 11) (N := some 41) (v := ?_) (a' := ?_) #[true, true, true, true, true, true, true, true, true, true, true, true, false, false, false] rfl rfl (take_ofW HT_.out HW_.out (by kernel_rfl)) (fun _ _ _ h => h) (Or.inl ⟨by rfl, ?_⟩) hHeld ?_ ?_
                    rotate_left
                    · rintro w' ⟨s0, s1, s2, s3, s4, s5, s6, s7, s8, s9, s10, s11, s12, s13, s14, s15, s16, s17⟩
                      go_simp
                      with_reducible rfl
                    rotate_left
                    · simp only [Act.put, List.setIfInBounds_toArray, List.set_cons_zero, List.set_cons_succ, i64_w, i32_w]
                      rfl
                    refine one_ (i := 12) (N := some 42) #[true, true, true, true, true, true, true, true, true, true, true, true, true, false, false] rfl rfl (one_of HT_.out (by kernel_rfl)) (by decide) (fun K hK => ?_)
                    refine goes_ Tryz.func19 (by kernel_rfl) rfl #[.agg #[.int .i64 a0_0, .int .i64 a0_1, .bool a0_2, .int .i64 a0_3, .int .i64 a0_4, .int .i64 a0_5, .string a0_6, .bool a0_7, .slice A0_8 l0_8.length c0_8, .slice A0_9 l0_9.length c0_9], .agg #[.bool ((rd_T52 l4 t274).f0), .int .u64 ((rd_T52 l4 t274).f1), .string ((rd_T52 l4 t274).f2), .slice A277_3 ((rd_T52 l4 t274).f3).length c277_3]] (by rfl) rfl rfl (by (try simp only [List.map_toArray, List.map_cons, List.map_nil]); first | done | rfl | (simp only [List.length_drop, List.length_take]; rfl)) ?_
                    with_reducible refine (spec_NotNumber.calls a0_0 a0_1 a0_2 a0_3 a0_4 a0_5 a0_6 a0_7 _ _ l0_8 _ _ l0_9 ((rd_T52 l4 t274).f0) ((rd_T52 l4 t274).f1) ((rd_T52 l4 t274).f2) _ _ ((rd_T52 l4 t274).f3) t278 _ ?side1 ?side2 ?side3 ?side4 ?side5 ?side6 A19.out).mono ?_
                    (case side1 => repeat (first | exact (Kd.C_below HR0_8.out HB.out) | (with_reducible refine Kd.C_alloc ?_ _) | (with_reducible refine Kd.C_drewN ?_ _) | (with_reducible refine Kd.C_drew ?_)))
                    (case side2 => exact HC0_8.out)
                    (case side3 => repeat (first | exact (Kd.C_below HR0_9.out HB.out) | (with_reducible refine Kd.C_alloc ?_ _) | (with_reducible refine Kd.C_drewN ?_ _) | (with_reducible refine Kd.C_drew ?_)))
                    (case side4 => exact HC0_9.out)
                    (case side5 => repeat (first | exact (Kd.C_below HR277_3.out HB.out) | (with_reducible refine Kd.C_alloc ?_ _) | (with_reducible refine Kd.C_drewN ?_ _) | (with_reducible refine Kd.C_drew ?_)))
                    (case side6 => exact HC277_3.out)
                    rintro e w22 ⟨rfl, hb⟩
                    refine ⟨_, rfl, ?_⟩
                    have n0_ := Aside0.mk (Kd.R_below (by (with_reducible repeat (first | apply Kd.R_alloc | apply Kd.R_drewN | apply Kd.R_drew)); exact HO_13.out) hb)
                    have n1_ := Aside0.mk (blk_below (g := gb272) (o := .cells #[.int .i64 a0_0, .int .i64 a0_1, .bool a0_2, .int .i64 a0_3, .int .i64 a0_4, .int .i64 a0_5, .string a0_6, .bool a0_7, .slice A0_8 l0_8.length c0_8, .slice A0_9 l0_9.length c0_9] 35 (0, 0)) (by (with_reducible repeat (first | refine blk_drewN ?_ _ | refine blk_drew ?_ | refine blk_alloc ?_ _)); exact BK272.out) hb)
                    have n2_ := Aside0.mk (below_step (by repeat (first | (with_reducible first | exact HB.out | apply below_alloc | apply pw_below_drewN | apply below_drew1 | refine below_set ?_ GE272.out) | exact HB.out)) hb)
                    clear HO_13
                    clear BK272
                    clear HB
                    have HO_13 := n0_
                    have BK272 := n1_
                    have HB := n2_
                    clear n0_ n1_ n2_
                    (try clear hb)
                    (try clear hb2)
                    (try clear hk)
                    (try clear hi)
                    refine hK.out _ _ ⟨(blk_cell BK272.out 0).trans rfl, (blk_cell BK272.out 1).trans rfl, (blk_cell BK272.out 2).trans rfl, (blk_cell BK272.out 3).trans rfl, (blk_cell BK272.out 4).trans rfl, (blk_cell BK272.out 5).trans rfl, (blk_cell BK272.out 6).trans rfl, (blk_cell BK272.out 7).trans rfl, (blk_cell BK272.out 8).trans rfl, (blk_cell BK272.out 9).trans rfl, ((HB.out.cell (World.block_lt_of_cell? w _ hw275_0)).trans hw275_0), ((HB.out.cell (World.block_lt_of_cell? w _ hw275_1)).trans hw275_1), ((HB.out.cell (World.block_lt_of_cell? w _ hw275_2)).trans hw275_2), ((HB.out.cell (World.block_lt_of_cell? w _ hw275_3)).trans hw275_3), ((HB.out.cell (World.block_lt_of_cell? w _ hw277_0)).trans hw277_0), ((HB.out.cell (World.block_lt_of_cell? w _ hw277_1)).trans hw277_1), ((HB.out.cell (World.block_lt_of_cell? w _ hw277_2)).trans hw277_2), ((HB.out.cell (World.block_lt_of_cell? w _ hw277_3)).trans hw277_3)⟩ (fun hHeld => ?_)
                    clear hK K
                    refine norm_ (a' := ?_) ?_ ?_
                    rotate_left
                    · show Act.put _ (some 42) _ = _
                      simp only [Act.put, List.setIfInBounds_toArray, List.set_cons_zero, List.set_cons_succ, i64_w, i32_w]
                      rfl
                    refine pure_ (i := 13) (N := some 43) (v := ?_) (a' := ?_) #[true, true, true, true, true, true, true, true, true, true, true, true, true, true, false] rfl rfl (any_of HT_.out (by kernel_rfl)) (fun _ _ _ h => h) (Or.inl ⟨by rfl, ?_⟩) ?_ ?_
                    rotate_left
                    · intro w'
                      go_simp
                      with_reducible rfl
                    rotate_left
                    · simp only [Act.put, List.setIfInBounds_toArray, List.set_cons_zero, List.set_cons_succ, i64_w, i32_w]
                      rfl
                    refine pure_ (i := 14) (N := some 17) (v := ?_) (a' := ?_) #[true, true, true, true, true, true, true, true, true, true, true, true, true, true, true] rfl rfl (any_of HT_.out (by kernel_rfl)) (fun _ _ _ h => h) (Or.inl ⟨by rfl, ?_⟩) ?_ ?_
                    rotate_left
                    · intro w'
                      go_simp
                      with_reducible rfl
                    rotate_left
                    · simp only [Act.put, List.setIfInBounds_toArray, List.set_cons_zero, List.set_cons_succ, i64_w, i32_w]
                      rfl
                    refine done_ (done_of HT_.out (by kernel_rfl)) ?_
                    try go_wp2
                    go_meet
                    case rel => exact ⟨_, (t278), (by first | rfl | (simp; done) | (simp [*]; done)), H', ⟨by have := HK1.out; first | omega | exact Nat.le_refl _⟩, ⟨by (with_reducible repeat (first | apply Kd.R_alloc | apply Kd.R_drewN | apply Kd.R_drew)); exact HO_13.out⟩, ⟨by (with_reducible repeat (first | refine blk_drewN ?_ _ | refine blk_drew ?_ | refine blk_alloc ?_ _)); exact BK272.out⟩, ⟨by repeat (first | (with_reducible first | exact HB.out | apply below_alloc | apply pw_below_drewN | apply below_drew1 | refine below_set ?_ GE272.out) | exact HB.out)⟩⟩
                  · rw [if_neg c18] at H
                    exact absurd H (by simp)
                · rw [if_neg c17] at H
                  exact absurd H (by simp)
            · rw [if_neg c12] at H
              exact absurd H (by simp)
          · rw [if_neg c11] at H
            exact absurd H (by simp)
        case rest =>
          clear HC10
          try clear c1
          try clear c2
          try clear p2
          try clear q2
          try clear hx2
          try clear c3
          try clear c4
          try clear c8
          try clear c8b0
          try clear c9
          try clear c11
          try clear c11b0
          try clear c12
          try clear c12b0
          try clear c14
          try clear c17
          try clear c17b0
          try clear c18
          try clear c18b0
          try clear c19
          try clear hx275_0
          try clear hx275_1
          try clear hx275_2
          try clear hx275_3
          try clear hx277_0
          try clear hx277_1
          try clear hx277_2
          try clear hx277_3
          try clear p2
          try clear p275
          try clear p277
          try clear q275
          try clear q277
          obtain ⟨kq, x17_9, rfl, HA, HJ9, HO_13, BK272, HB⟩ := hcut
          cases kq with
          | zero => exact absurd HA.out (by simp [laws_compareDue.j1])
          | succ kj9 =>
            have H := HA.out
            clear HA
            simp only [laws_compareDue.j1] at H
            by_cases c23 : x17_9 = true
            · subst c23
              have H1 : ((laws_answer.f a1 0 true).bind fun t279 => (if x13_1.length < 140737488355328 then (laws_compareDue.l0 kj9 a1 a2 l3 l4 a5 (x13_1 ++ [t279]) (wrap64 (x14_1 + 1)) a0_0 a0_1 a0_2 a0_3 a0_4 a0_5 a0_6 a0_7 l0_8 l0_9) else (none))) = some r := by rw [if_pos rfl] at H; exact H
              clear H
              have H := H1
              clear H1
              replace H := Option.bind_eq_some_iff.mp H
              obtain ⟨t279, A240, H⟩ := H
              replace H : (if x13_1.length < 140737488355328 then (laws_compareDue.l0 kj9 a1 a2 l3 l4 a5 (x13_1 ++ [t279]) (wrap64 (x14_1 + 1)) a0_0 a0_1 a0_2 a0_3 a0_4 a0_5 a0_6 a0_7 l0_8 l0_9) else (none)) = some r := H
              have A24 := Aside0.mk A240
              clear A240
              by_cases c25 : x13_1.length < 140737488355328
              · rw [if_pos c25] at H
                have LMc25 := Aside0.mk c25
                clear c25
                obtain ⟨y280, hy280⟩ : ∃ y_ : List Bool, y_ = (x13_1 ++ [t279]) := ⟨_, rfl⟩
                replace H : (laws_compareDue.l0 kj9 a1 a2 l3 l4 a5 y280 (wrap64 (x14_1 + 1)) a0_0 a0_1 a0_2 a0_3 a0_4 a0_5 a0_6 a0_7 l0_8 l0_9) = some r := by first | (rw [hy280]; with_reducible exact H) | (have H2_ := (Option.bind_some _ _).symm.trans H; rw [hy280]; with_reducible exact H2_) | (have H2_ := (Option.bind_some _ _).symm.trans H; with_reducible exact H2_) | with_reducible exact H | (rw [hy280]; exact H) | exact H
                have Ny280 := Aside0.mk hy280
                clear hy280
                have H' := Aside0.mk H
                clear H
                go_wp2_with (first | ((with_reducible refine gate_callee (f := 21) rfl ?_); refine goesL_ (some 60) rfl rfl Tryz.func21 (by kernel_rfl) rfl #[.int .i64 a1, .int .i64 0, .bool true] rfl (by (try simp only [List.map_toArray, List.map_cons, List.map_nil]); first | done | rfl | (simp only [List.length_drop, List.length_take]; rfl)) ?_; (with_reducible refine (laws_answer.calls a1 0 true t279 _ A24.out).mono ?_); rintro e w' ⟨rfl, ⟨nd, rfl⟩⟩; refine ⟨_, rfl, ?_⟩) | ((with_reducible refine gate_builtin (b := .append) (xs := #[.tmp 56, .tmp 61]) rfl ?_); at_builtin; refine Kd.R_append Kd.bool (w0 := w) w.heap.size rfl (.tmp 56) (.tmp 61) 38 4 (.bool false) 1 rfl Tryz.underlying38 info4 rfl (by decide) (by omega) u13 x13_1 t279 [.bool t279] (fun _ => True) (fun _ => False) rfl rfl ?aP (fun _ hk => hk.elim) ?aF ?aO ?aB ?aS ?aL ?_; (case aP => exact rfl); (case aB => exact (by repeat (first | (with_reducible first | exact HB.out | apply below_alloc | apply pw_below_drewN | apply below_drew1 | refine below_set ?_ GE272.out) | exact HB.out))); (case aF => exact (fun _ _ => trivial)); (case aO => exact (by (with_reducible repeat (first | apply Kd.R_alloc | apply Kd.R_drewN | apply Kd.R_drew)); exact HO_13.out)); (case aS => exact (below_size (by repeat (first | (with_reducible first | exact HB.out | apply below_alloc | apply pw_below_drewN | apply below_drew1 | refine below_set ?_ GE272.out) | exact HB.out)))); (case aL => have := LMc25.out; omega); intro v281 w26 ho hb hg hat; rw [← Ny280.out] at ho; have n0_ := Aside0.mk (blk_grown (g := gb272) (o := .cells #[.int .i64 a0_0, .int .i64 a0_1, .bool a0_2, .int .i64 a0_3, .int .i64 a0_4, .int .i64 a0_5, .string a0_6, .bool a0_7, .slice A0_8 l0_8.length c0_8, .slice A0_9 l0_9.length c0_9] 35 (0, 0)) (by (with_reducible repeat (first | refine blk_drewN ?_ _ | refine blk_drew ?_ | refine blk_alloc ?_ _)); exact BK272.out) hg (Kd.R_ne HO_13.out BK272.out (by decide))); have n1_ := Aside0.mk (hb); have n2_ := Aside0.mk (ho); clear BK272; clear HB; clear HO_13; have BK272 := n0_; have HB := n1_; have HO282 := n2_; clear n0_ n1_ n2_; clear ho hb hg hat))
                go_roundg kj9
                case measure => have := HK1.out; have := HJ9.out; omega
                case rel => exact ⟨(y280), (wrap64 (x14_1 + 1)), (by first | rfl | (simp; done) | (simp [*]; done)), H', ⟨by have := HK1.out; have := HJ9.out; omega⟩, ⟨by (with_reducible repeat (first | apply Kd.R_alloc | apply Kd.R_drewN | apply Kd.R_drew)); exact HO282.out⟩, ⟨by (with_reducible repeat (first | refine blk_drewN ?_ _ | refine blk_drew ?_ | refine blk_alloc ?_ _)); exact BK272.out⟩, ⟨by repeat (first | (with_reducible first | exact HB.out | apply below_alloc | apply pw_below_drewN | apply below_drew1 | refine below_set ?_ GE272.out) | exact HB.out)⟩⟩
              · rw [if_neg c25] at H
                exact absurd H (by simp)
            · replace c23 := Bool.eq_false_iff.mpr c23
              subst c23
              have H1 : (if 0 ≤ t273 then (if t273 < (l3.length : Int) then (if 0 ≤ t274 then (if t274 < (l4.length : Int) then ((spec_Order.f a0_0 a0_1 a0_2 a0_3 a0_4 a0_5 a0_6 a0_7 l0_8 l0_9 ((rd_T52 l3 t273).f0) ((rd_T52 l3 t273).f1) ((rd_T52 l3 t273).f2) ((rd_T52 l3 t273).f3) ((rd_T52 l4 t274).f0) ((rd_T52 l4 t274).f1) ((rd_T52 l4 t274).f2) ((rd_T52 l4 t274).f3)).bind fun t285 => ((laws_answer.f a1 t285 false).bind fun t286 => (if x13_1.length < 140737488355328 then (laws_compareDue.l0 kj9 a1 a2 l3 l4 a5 (x13_1 ++ [t286]) (wrap64 (x14_1 + 1)) a0_0 a0_1 a0_2 a0_3 a0_4 a0_5 a0_6 a0_7 l0_8 l0_9) else (none)))) else (none)) else (none)) else (none)) else (none)) = some r := by rw [if_neg (show ¬ (false = true) by decide)] at H; exact H
              clear H
              have H := H1
              clear H1
              by_cases c27 : 0 ≤ t273
              · rw [if_pos c27] at H
                have c27b0 : decide (0 ≤ t273) = true := decide_eq_true c27
                clear c27
                by_cases c28 : t273 < (l3.length : Int)
                · rw [if_pos c28] at H
                  have c28b0 : decide (t273 < (l3.length : Int)) = true := decide_eq_true c28
                  clear c28
                  by_cases c29 : 0 ≤ t274
                  · rw [if_pos c29] at H
                    have c29b0 : decide (0 ≤ t274) = true := decide_eq_true c29
                    clear c29
                    by_cases c30 : t274 < (l4.length : Int)
                    · rw [if_pos c30] at H
                      have c30b0 : decide (t274 < (l4.length : Int)) = true := decide_eq_true c30
                      clear c30
                      replace H := Option.bind_eq_some_iff.mp H
                      obtain ⟨t285, A310, H⟩ := H
                      replace H : ((laws_answer.f a1 t285 false).bind fun t286 => (if x13_1.length < 140737488355328 then (laws_compareDue.l0 kj9 a1 a2 l3 l4 a5 (x13_1 ++ [t286]) (wrap64 (x14_1 + 1)) a0_0 a0_1 a0_2 a0_3 a0_4 a0_5 a0_6 a0_7 l0_8 l0_9) else (none))) = some r := H
                      have A31 := Aside0.mk A310
                      clear A310
                      replace H := Option.bind_eq_some_iff.mp H
                      obtain ⟨t286, A320, H⟩ := H
                      replace H : (if x13_1.length < 140737488355328 then (laws_compareDue.l0 kj9 a1 a2 l3 l4 a5 (x13_1 ++ [t286]) (wrap64 (x14_1 + 1)) a0_0 a0_1 a0_2 a0_3 a0_4 a0_5 a0_6 a0_7 l0_8 l0_9) else (none)) = some r := H
                      have A32 := Aside0.mk A320
                      clear A320
                      by_cases c33 : x13_1.length < 140737488355328
                      · rw [if_pos c33] at H
                        have LMc33 := Aside0.mk c33
                        clear c33
                        obtain ⟨y287, hy287⟩ : ∃ y_ : List Bool, y_ = (x13_1 ++ [t286]) := ⟨_, rfl⟩
                        replace H : (laws_compareDue.l0 kj9 a1 a2 l3 l4 a5 y287 (wrap64 (x14_1 + 1)) a0_0 a0_1 a0_2 a0_3 a0_4 a0_5 a0_6 a0_7 l0_8 l0_9) = some r := by first | (rw [hy287]; with_reducible exact H) | (have H2_ := (Option.bind_some _ _).symm.trans H; rw [hy287]; with_reducible exact H2_) | (have H2_ := (Option.bind_some _ _).symm.trans H; with_reducible exact H2_) | with_reducible exact H | (rw [hy287]; exact H) | exact H
                        have Ny287 := Aside0.mk hy287
                        clear hy287
                        have H' := Aside0.mk H
                        clear H
                        try go_wp2
                        have n0_ := Aside0.mk (Kd.R_drew HO_13.out)
                        have n1_ := Aside0.mk (blk_drew BK272.out)
                        have n2_ := Aside0.mk (below_drew1 HB.out)
                        clear HO_13
                        clear BK272
                        clear HB
                        have HO_13 := n0_
                        have BK272 := n1_
                        have HB := n2_
                        clear n0_ n1_ n2_
                        have p283 : 0 ≤ (t273 : Int) := of_decide_eq_true (by first | (with_reducible assumption) | assumption)
                        have q283 : t273 < (l3.length : Int) := of_decide_eq_true (by first | (with_reducible assumption) | assumption)
                        obtain ⟨ad283, A283_3, c283_3, e283, hx283_0, hx283_1, hx283_2, hx283_3, hl283_3, hi283_3⟩ := at_T52 HR3.out t273 p283 q283
                        have hw283_3 := hx283_3
                        have hw283_2 := hx283_2
                        have hw283_1 := hx283_1
                        have hw283_0 := hx283_0
                        cases e283
                        replace hx283_0 := (HB.out.cell (World.block_lt_of_cell? w _ hx283_0)).trans hx283_0
                        replace hx283_1 := (HB.out.cell (World.block_lt_of_cell? w _ hx283_1)).trans hx283_1
                        replace hx283_2 := (HB.out.cell (World.block_lt_of_cell? w _ hx283_2)).trans hx283_2
                        replace hx283_3 := (HB.out.cell (World.block_lt_of_cell? w _ hx283_3)).trans hx283_3
                        have HR283_3 := Aside0.mk hi283_3
                        have HC283_3 := Aside0.mk hl283_3
                        clear hi283_3 hl283_3
                        replace p283 := eq_true p283
                        replace q283 := eq_true q283
                        have p284 : 0 ≤ (t274 : Int) := of_decide_eq_true (by first | (with_reducible assumption) | assumption)
                        have q284 : t274 < (l4.length : Int) := of_decide_eq_true (by first | (with_reducible assumption) | assumption)
                        obtain ⟨ad284, A284_3, c284_3, e284, hx284_0, hx284_1, hx284_2, hx284_3, hl284_3, hi284_3⟩ := at_T52 HR4.out t274 p284 q284
                        have hw284_3 := hx284_3
                        have hw284_2 := hx284_2
                        have hw284_1 := hx284_1
                        have hw284_0 := hx284_0
                        cases e284
                        replace hx284_0 := (HB.out.cell (World.block_lt_of_cell? w _ hx284_0)).trans hx284_0
                        replace hx284_1 := (HB.out.cell (World.block_lt_of_cell? w _ hx284_1)).trans hx284_1
                        replace hx284_2 := (HB.out.cell (World.block_lt_of_cell? w _ hx284_2)).trans hx284_2
                        replace hx284_3 := (HB.out.cell (World.block_lt_of_cell? w _ hx284_3)).trans hx284_3
                        have HR284_3 := Aside0.mk hi284_3
                        have HC284_3 := Aside0.mk hl284_3
                        clear hi284_3 hl284_3
                        replace p284 := eq_true p284
                        replace q284 := eq_true q284
                        refine start_ (n := 11) (S := fun w' => w'.cell? ⟨gb272, 0, none⟩ = some (.int .i64 a0_0) ∧ w'.cell? ⟨gb272, 1, none⟩ = some (.int .i64 a0_1) ∧ w'.cell? ⟨gb272, 2, none⟩ = some (.bool a0_2) ∧ w'.cell? ⟨gb272, 3, none⟩ = some (.int .i64 a0_3) ∧ w'.cell? ⟨gb272, 4, none⟩ = some (.int .i64 a0_4) ∧ w'.cell? ⟨gb272, 5, none⟩ = some (.int .i64 a0_5) ∧ w'.cell? ⟨gb272, 6, none⟩ = some (.string a0_6) ∧ w'.cell? ⟨gb272, 7, none⟩ = some (.bool a0_7) ∧ w'.cell? ⟨gb272, 8, none⟩ = some (.slice A0_8 l0_8.length c0_8) ∧ w'.cell? ⟨gb272, 9, none⟩ = some (.slice A0_9 l0_9.length c0_9) ∧ w'.cell? (ad283.add ((t273).toNat * 4)) = some (.bool ((rd_T52 l3 t273).f0)) ∧ w'.cell? ⟨(ad283.add ((t273).toNat * 4)).block, (ad283.add ((t273).toNat * 4)).off + 1, none⟩ = some (.int .u64 ((rd_T52 l3 t273).f1)) ∧ w'.cell? ⟨(ad283.add ((t273).toNat * 4)).block, (ad283.add ((t273).toNat * 4)).off + 2, none⟩ = some (.string ((rd_T52 l3 t273).f2)) ∧ w'.cell? ⟨(ad283.add ((t273).toNat * 4)).block, (ad283.add ((t273).toNat * 4)).off + 3, none⟩ = some (.slice A283_3 ((rd_T52 l3 t273).f3).length c283_3) ∧ w'.cell? (ad284.add ((t274).toNat * 4)) = some (.bool ((rd_T52 l4 t274).f0)) ∧ w'.cell? ⟨(ad284.add ((t274).toNat * 4)).block, (ad284.add ((t274).toNat * 4)).off + 1, none⟩ = some (.int .u64 ((rd_T52 l4 t274).f1)) ∧ w'.cell? ⟨(ad284.add ((t274).toNat * 4)).block, (ad284.add ((t274).toNat * 4)).off + 2, none⟩ = some (.string ((rd_T52 l4 t274).f2)) ∧ w'.cell? ⟨(ad284.add ((t274).toNat * 4)).block, (ad284.add ((t274).toNat * 4)).off + 3, none⟩ = some (.slice A284_3 ((rd_T52 l4 t274).f3).length c284_3)) (ds := []) #[false, false, false, false, false, false, false, false, false, false, false] (by kernel_rfl) rfl rfl ⟨(blk_cell BK272.out 0).trans rfl, (blk_cell BK272.out 1).trans rfl, (blk_cell BK272.out 2).trans rfl, (blk_cell BK272.out 3).trans rfl, (blk_cell BK272.out 4).trans rfl, (blk_cell BK272.out 5).trans rfl, (blk_cell BK272.out 6).trans rfl, (blk_cell BK272.out 7).trans rfl, (blk_cell BK272.out 8).trans rfl, (blk_cell BK272.out 9).trans rfl, ((HB.out.cell (World.block_lt_of_cell? w _ hw283_0)).trans hw283_0), ((HB.out.cell (World.block_lt_of_cell? w _ hw283_1)).trans hw283_1), ((HB.out.cell (World.block_lt_of_cell? w _ hw283_2)).trans hw283_2), ((HB.out.cell (World.block_lt_of_cell? w _ hw283_3)).trans hw283_3), ((HB.out.cell (World.block_lt_of_cell? w _ hw284_0)).trans hw284_0), ((HB.out.cell (World.block_lt_of_cell? w _ hw284_1)).trans hw284_1), ((HB.out.cell (World.block_lt_of_cell? w _ hw284_2)).trans hw284_2), ((HB.out.cell (World.block_lt_of_cell? w _ hw284_3)).trans hw284_3)⟩ (fun hHeld => ?_); refine with_tabW laws_compareDue.tab9 laws_compareDue.bits9 (fun HT_ HW_ => ?_)
                        generalize wc.drew = w34 at HO_13 BK272 HB HR283_3 HR284_3 hx283_0 hx283_1 hx283_2 hx283_3 hx284_0 hx284_1 hx284_2 hx284_3 hHeld ⊢
                        refine pure_ (i := 1) (N := some 47) (v := ?_) (a' := ?_) #[false, true, false, false, false, false, false, false, false, false, false] rfl rfl (any_of HT_.out (by kernel_rfl)) (fun _ _ _ h => h) (Or.inl ⟨by rfl, ?_⟩) ?_ ?_
                        rotate_left
                        · intro w'
                          go_simp
                          with_reducible rfl
                        rotate_left
                        · simp only [Act.put, List.setIfInBounds_toArray, List.set_cons_zero, List.set_cons_succ, i64_w, i32_w]
                          rfl
                        refine pure_ (i := 2) (N := some 48) (v := ?_) (a' := ?_) #[false, true, true, false, false, false, false, false, false, false, false] rfl rfl (any_of HT_.out (by kernel_rfl)) (fun _ _ _ h => h) (Or.inl ⟨by rfl, ?_⟩) ?_ ?_
                        rotate_left
                        · intro w'
                          go_simp
                          with_reducible rfl
                        rotate_left
                        · simp only [Act.put, List.setIfInBounds_toArray, List.set_cons_zero, List.set_cons_succ, i64_w, i32_w]
                          rfl
                        refine pure_ (i := 3) (N := some 49) (v := ?_) (a' := ?_) #[false, true, true, true, false, false, false, false, false, false, false] rfl rfl (any_of HT_.out (by kernel_rfl)) (fun _ _ _ h => h) (Or.inl ⟨by rfl, ?_⟩) ?_ ?_
                        rotate_left
                        · intro w'
                          go_simp
                          with_reducible rfl
                        rotate_left
                        · simp only [Act.put, List.setIfInBounds_toArray, List.set_cons_zero, List.set_cons_succ, i64_w, i32_w]
                          rfl
                        refine pure_ (i := 5) (N := some 51) (v := ?_) (a' := ?_) #[false, true, true, true, false, true, false, false, false, false, false] rfl rfl (any_of HT_.out (by kernel_rfl)) (fun _ _ _ h => h) (Or.inl ⟨by rfl, ?_⟩) ?_ ?_
                        rotate_left
                        · intro w'
                          go_simp
                          with_reducible rfl
                        rotate_left
                        · simp only [Act.put, List.setIfInBounds_toArray, List.set_cons_zero, List.set_cons_succ, i64_w, i32_w]
                          rfl
                        refine pure_ (i := 6) (N := some 52) (v := ?_) (a' := ?_) #[false, true, true, true, false, true, true, false, false, false, false] rfl rfl (any_of HT_.out (by kernel_rfl)) (fun _ _ _ h => h) (Or.inl ⟨by rfl, ?_⟩) ?_ ?_
                        rotate_left
                        · intro w'
                          go_simp
                          with_reducible rfl
                        rotate_left
                        · simp only [Act.put, List.setIfInBounds_toArray, List.set_cons_zero, List.set_cons_succ, i64_w, i32_w]
                          rfl
                        refine pure_ (i := 7) (N := some 53) (v := ?_) (a' := ?_) #[false, true, true, true, false, true, true, true, false, false, false] rfl rfl (any_of HT_.out (by kernel_rfl)) (fun _ _ _ h => h) (Or.inl ⟨by rfl, ?_⟩) ?_ ?_
                        rotate_left
                        · intro w'
                          go_simp
                          with_reducible rfl
                        rotate_left
                        · simp only [Act.put, List.setIfInBounds_toArray, List.set_cons_zero, List.set_cons_succ, i64_w, i32_w]
                          rfl
                        refine take_ (i := 0) (N := some 46) (v := ?_) (a' := ?_) #[true, true, true, true, false, true, true, true, false, false, false] rfl rfl (take_ofW HT_.out HW_.out (by kernel_rfl)) (fun _ _ _ h => h) (Or.inl ⟨by rfl, ?_⟩) hHeld ?_ ?_
                        rotate_left
                        · rintro w' ⟨s0, s1, s2, s3, s4, s5, s6, s7, s8, s9, s10, s11, s12, s13, s14, s15, s16, s17⟩
                          go_simp
                          with_reducible rfl
                        rotate_left
                        · simp only [Act.put, List.setIfInBounds_toArray, List.set_cons_zero, List.set_cons_succ, i64_w, i32_w]
                          rfl
                        refine take_ (i := 4) (N := some 50) (v := ?_) (a' := ?_) #[true, true, true, true, true, true, true, true, false, false, false] rfl rfl (take_ofW HT_.out HW_.out (by kernel_rfl)) (fun _ _ _ h => h) (Or.inl ⟨by rfl, ?_⟩) hHeld ?_ ?_
                        rotate_left
                        · rintro w' ⟨s0, s1, s2, s3, s4, s5, s6, s7, s8, s9, s10, s11, s12, s13, s14, s15, s16, s17⟩
                          go_simp
                          with_reducible rfl
                        rotate_left
                        · simp only [Act.put, List.setIfInBounds_toArray, List.set_cons_zero, List.set_cons_succ, i64_w, i32_w]
                          rfl
                        refine take_ (i := 8) (N := some 54) (v := ?_) (a' := ?_) #[true, true, true, true, true, true, true, true, true, false, false] rfl rfl (take_ofW HT_.out HW_.out (by kernel_rfl)) (fun _ _ _ h => h) (Or.inl ⟨by rfl, ?_⟩) hHeld ?_ ?_
                        rotate_left
                        · rintro w' ⟨s0, s1, s2, s3, s4, s5, s6, s7, s8, s9, s10, s11, s12, s13, s14, s15, s16, s17⟩
                          go_simp
                          with_reducible rfl
                        rotate_left
                        · simp only [Act.put, List.setIfInBounds_toArray, List.set_cons_zero, List.set_cons_succ, i64_w, i32_w]
                          rfl
                        refine one_ (i := 9) (N := some 55) #[true, true, true, true, true, true, true, true, true, true, false] rfl rfl (one_of HT_.out (by kernel_rfl)) (by decide) (fun K hK => ?_)
                        refine goes_ Tryz.func20 (by kernel_rfl) rfl #[.agg #[.int .i64 a0_0, .int .i64 a0_1, .bool a0_2, .int .i64 a0_3, .int .i64 a0_4, .int .i64 a0_5, .string a0_6, .bool a0_7, .slice A0_8 l0_8.length c0_8, .slice A0_9 l0_9.length c0_9], .agg #[.bool ((rd_T52 l3 t273).f0), .int .u64 ((rd_T52 l3 t273).f1), .string ((rd_T52 l3 t273).f2), .slice A283_3 ((rd_T52 l3 t273).f3).length c283_3], .agg #[.bool ((rd_T52 l4 t274).f0), .int .u64 ((rd_T52 l4 t274).f1), .string ((rd_T52 l4 t274).f2), .slice A284_3 ((rd_T52 l4 t274).f3).length c284_3]] (by rfl) rfl rfl (by (try simp only [List.map_toArray, List.map_cons, List.map_nil]); first | done | rfl | (simp only [List.length_drop, List.length_take]; rfl)) ?_
                        with_reducible refine (spec_Order.calls a0_0 a0_1 a0_2 a0_3 a0_4 a0_5 a0_6 a0_7 _ _ l0_8 _ _ l0_9 ((rd_T52 l3 t273).f0) ((rd_T52 l3 t273).f1) ((rd_T52 l3 t273).f2) _ _ ((rd_T52 l3 t273).f3) ((rd_T52 l4 t274).f0) ((rd_T52 l4 t274).f1) ((rd_T52 l4 t274).f2) _ _ ((rd_T52 l4 t274).f3) t285 _ ?side1 ?side2 ?side3 ?side4 ?side5 ?side6 ?side7 ?side8 A31.out).mono ?_
                        (case side1 => repeat (first | exact (Kd.C_below HR0_8.out HB.out) | (with_reducible refine Kd.C_alloc ?_ _) | (with_reducible refine Kd.C_drewN ?_ _) | (with_reducible refine Kd.C_drew ?_)))
                        (case side2 => exact HC0_8.out)
                        (case side3 => repeat (first | exact (Kd.C_below HR0_9.out HB.out) | (with_reducible refine Kd.C_alloc ?_ _) | (with_reducible refine Kd.C_drewN ?_ _) | (with_reducible refine Kd.C_drew ?_)))
                        (case side4 => exact HC0_9.out)
                        (case side5 => repeat (first | exact (Kd.C_below HR283_3.out HB.out) | (with_reducible refine Kd.C_alloc ?_ _) | (with_reducible refine Kd.C_drewN ?_ _) | (with_reducible refine Kd.C_drew ?_)))
                        (case side6 => exact HC283_3.out)
                        (case side7 => repeat (first | exact (Kd.C_below HR284_3.out HB.out) | (with_reducible refine Kd.C_alloc ?_ _) | (with_reducible refine Kd.C_drewN ?_ _) | (with_reducible refine Kd.C_drew ?_)))
                        (case side8 => exact HC284_3.out)
                        rintro e w35 ⟨rfl, hb⟩
                        refine ⟨_, rfl, ?_⟩
                        have n0_ := Aside0.mk (Kd.R_below (by (with_reducible repeat (first | apply Kd.R_alloc | apply Kd.R_drewN | apply Kd.R_drew)); exact HO_13.out) hb)
                        have n1_ := Aside0.mk (blk_below (g := gb272) (o := .cells #[.int .i64 a0_0, .int .i64 a0_1, .bool a0_2, .int .i64 a0_3, .int .i64 a0_4, .int .i64 a0_5, .string a0_6, .bool a0_7, .slice A0_8 l0_8.length c0_8, .slice A0_9 l0_9.length c0_9] 35 (0, 0)) (by (with_reducible repeat (first | refine blk_drewN ?_ _ | refine blk_drew ?_ | refine blk_alloc ?_ _)); exact BK272.out) hb)
                        have n2_ := Aside0.mk (below_step (by repeat (first | (with_reducible first | exact HB.out | apply below_alloc | apply pw_below_drewN | apply below_drew1 | refine below_set ?_ GE272.out) | exact HB.out)) hb)
                        clear HO_13
                        clear BK272
                        clear HB
                        have HO_13 := n0_
                        have BK272 := n1_
                        have HB := n2_
                        clear n0_ n1_ n2_
                        (try clear hb)
                        (try clear hb2)
                        (try clear hk)
                        (try clear hi)
                        refine hK.out _ _ ⟨(blk_cell BK272.out 0).trans rfl, (blk_cell BK272.out 1).trans rfl, (blk_cell BK272.out 2).trans rfl, (blk_cell BK272.out 3).trans rfl, (blk_cell BK272.out 4).trans rfl, (blk_cell BK272.out 5).trans rfl, (blk_cell BK272.out 6).trans rfl, (blk_cell BK272.out 7).trans rfl, (blk_cell BK272.out 8).trans rfl, (blk_cell BK272.out 9).trans rfl, ((HB.out.cell (World.block_lt_of_cell? w _ hw283_0)).trans hw283_0), ((HB.out.cell (World.block_lt_of_cell? w _ hw283_1)).trans hw283_1), ((HB.out.cell (World.block_lt_of_cell? w _ hw283_2)).trans hw283_2), ((HB.out.cell (World.block_lt_of_cell? w _ hw283_3)).trans hw283_3), ((HB.out.cell (World.block_lt_of_cell? w _ hw284_0)).trans hw284_0), ((HB.out.cell (World.block_lt_of_cell? w _ hw284_1)).trans hw284_1), ((HB.out.cell (World.block_lt_of_cell? w _ hw284_2)).trans hw284_2), ((HB.out.cell (World.block_lt_of_cell? w _ hw284_3)).trans hw284_3)⟩ (fun hHeld => ?_)
                        clear hK K
                        refine norm_ (a' := ?_) ?_ ?_
                        rotate_left
                        · show Act.put _ (some 55) _ = _
                          simp only [Act.put, List.setIfInBounds_toArray, List.set_cons_zero, List.set_cons_succ, i64_w, i32_w]
                          rfl
                        refine pure_ (i := 10) (N := some 18) (v := ?_) (a' := ?_) #[true, true, true, true, true, true, true, true, true, true, true] rfl rfl (any_of HT_.out (by kernel_rfl)) (fun _ _ _ h => h) (Or.inl ⟨by rfl, ?_⟩) ?_ ?_
                        rotate_left
                        · intro w'
                          go_simp
                          with_reducible rfl
                        rotate_left
                        · simp only [Act.put, List.setIfInBounds_toArray, List.set_cons_zero, List.set_cons_succ, i64_w, i32_w]
                          rfl
                        refine done_ (done_of HT_.out (by kernel_rfl)) ?_
                        try go_wp2_with (first | ((with_reducible refine gate_callee (f := 21) rfl ?_); refine goesL_ (some 60) rfl rfl Tryz.func21 (by kernel_rfl) rfl #[.int .i64 a1, .int .i64 t285, .bool false] rfl (by (try simp only [List.map_toArray, List.map_cons, List.map_nil]); first | done | rfl | (simp only [List.length_drop, List.length_take]; rfl)) ?_; (with_reducible refine (laws_answer.calls a1 t285 false t286 _ A32.out).mono ?_); rintro e w' ⟨rfl, ⟨nd, rfl⟩⟩; refine ⟨_, rfl, ?_⟩) | ((with_reducible refine gate_builtin (b := .append) (xs := #[.tmp 56, .tmp 61]) rfl ?_); at_builtin; refine Kd.R_append Kd.bool (w0 := w) w.heap.size rfl (.tmp 56) (.tmp 61) 38 4 (.bool false) 1 rfl Tryz.underlying38 info4 rfl (by decide) (by omega) u13 x13_1 t286 [.bool t286] (fun _ => True) (fun _ => False) rfl rfl ?aP (fun _ hk => hk.elim) ?aF ?aO ?aB ?aS ?aL ?_; (case aP => exact rfl); (case aB => exact (by repeat (first | (with_reducible first | exact HB.out | apply below_alloc | apply pw_below_drewN | apply below_drew1 | refine below_set ?_ GE272.out) | exact HB.out))); (case aF => exact (fun _ _ => trivial)); (case aO => exact (by (with_reducible repeat (first | apply Kd.R_alloc | apply Kd.R_drewN | apply Kd.R_drew)); exact HO_13.out)); (case aS => exact (below_size (by repeat (first | (with_reducible first | exact HB.out | apply below_alloc | apply pw_below_drewN | apply below_drew1 | refine below_set ?_ GE272.out) | exact HB.out)))); (case aL => have := LMc33.out; omega); intro v288 w36 ho hb hg hat; rw [← Ny287.out] at ho; have n0_ := Aside0.mk (blk_grown (g := gb272) (o := .cells #[.int .i64 a0_0, .int .i64 a0_1, .bool a0_2, .int .i64 a0_3, .int .i64 a0_4, .int .i64 a0_5, .string a0_6, .bool a0_7, .slice A0_8 l0_8.length c0_8, .slice A0_9 l0_9.length c0_9] 35 (0, 0)) (by (with_reducible repeat (first | refine blk_drewN ?_ _ | refine blk_drew ?_ | refine blk_alloc ?_ _)); exact BK272.out) hg (Kd.R_ne HO_13.out BK272.out (by decide))); have n1_ := Aside0.mk (hb); have n2_ := Aside0.mk (ho); clear BK272; clear HB; clear HO_13; have BK272 := n0_; have HB := n1_; have HO289 := n2_; clear n0_ n1_ n2_; clear ho hb hg hat))
                        go_roundg kj9
                        case measure => have := HK1.out; have := HJ9.out; omega
                        case rel => exact ⟨(y287), (wrap64 (x14_1 + 1)), (by first | rfl | (simp; done) | (simp [*]; done)), H', ⟨by have := HK1.out; have := HJ9.out; omega⟩, ⟨by (with_reducible repeat (first | apply Kd.R_alloc | apply Kd.R_drewN | apply Kd.R_drew)); exact HO289.out⟩, ⟨by (with_reducible repeat (first | refine blk_drewN ?_ _ | refine blk_drew ?_ | refine blk_alloc ?_ _)); exact BK272.out⟩, ⟨by repeat (first | (with_reducible first | exact HB.out | apply below_alloc | apply pw_below_drewN | apply below_drew1 | refine below_set ?_ GE272.out) | exact HB.out)⟩⟩
                      · rw [if_neg c33] at H
                        exact absurd H (by simp)
                    · rw [if_neg c30] at H
                      exact absurd H (by simp)
                  · rw [if_neg c29] at H
                    exact absurd H (by simp)
                · rw [if_neg c28] at H
                  exact absurd H (by simp)
              · rw [if_neg c27] at H
                exact absurd H (by simp)
      · rw [if_neg c8] at H
        have c8b0 : decide (x14_1 < a5) = false := decide_eq_false c8
        clear c8
        obtain rfl := Option.some.inj H
        go_wp2
        go_ret
        exact ⟨_, by first | rfl | (simp [errW_none, errW_some] <;> rfl) | (simp [*, errW_none, errW_some] <;> rfl), by (with_reducible repeat (first | apply Kd.R_alloc | apply Kd.R_drewN | apply Kd.R_drew)); exact HO_13.out, by repeat (first | (with_reducible first | exact HB.out | apply below_alloc | apply pw_below_drewN | apply below_drew1 | refine below_set ?_ GE272.out) | exact HB.out)⟩

end Go.Proofs.YtgccaabpckfhlaaGreatDoor.Q
