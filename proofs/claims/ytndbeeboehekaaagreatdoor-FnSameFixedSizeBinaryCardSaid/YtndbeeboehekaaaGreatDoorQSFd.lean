-- written by programs of ours (wip/tools) out of the kit's printer: the functions of one law, less those that are shared or proved by hand
import Derived.Test.YtndbeeboehekaaaGreatDoorQ0
import Derived.Test.YtndbeeboehekaaaGreatDoorQSFc
namespace Go.Proofs.YtndbeeboehekaaaGreatDoor.Q
open Go.RowKit Go.Proofs.YtndbeeboehekaaaGreatDoorW.PrintWords Go.Proofs.YtndbeeboehekaaaGreatDoorW.PrintLast Go.Proofs.YtndbeeboehekaaaGreatDoorW.PrintMore
attribute [local go_sem] max2_int min2_int max_two min_two max_three min_three max_four min_four
set_option linter.unusedVariables false
set_option linter.unusedSimpArgs false

/-! ### spec_OneAll: function 11 -/
def spec_OneAll.l0 : Nat → List (S25) → Int → Int → Int → Bool → Int → Int → Int → ByteArray → Bool → List Int → List Int → Option (Bool)
  | 0, _, _, _, _, _, _, _, _, _, _, _, _ => none
  | k + 1, x1, x5, x121000, x121001, x121002, x121003, x121004, x121005, x121006, x121007, x121008, x121009 => if x5 < (x1.length : Int) then (if 0 ≤ x5 then ((spec_OneFits.f k x121000 x121001 x121002 x121003 x121004 x121005 x121006 x121007 x121008 x121009 ((rd_T25 x1 x5).f0) ((rd_T25 x1 x5).f1) ((rd_T25 x1 x5).f2) ((rd_T25 x1 x5).f3)).bind fun t122 => (if t122 = true then (spec_OneAll.l0 k x1 (wrap64 (x5 + 1)) x121000 x121001 x121002 x121003 x121004 x121005 x121006 x121007 x121008 x121009) else (some false))) else (none)) else (some (decide ((x1.length : Int) ≤ 100)))
def spec_OneAll.f (k : Nat) (a0_0 : Int) (a0_1 : Int) (a0_2 : Bool) (a0_3 : Int) (a0_4 : Int) (a0_5 : Int) (a0_6 : ByteArray) (a0_7 : Bool) (l0_8 : List Int) (l0_9 : List Int) (l1 : List (S25)) : Option (Bool) := spec_OneAll.l0 k l1 0 a0_0 a0_1 a0_2 a0_3 a0_4 a0_5 a0_6 a0_7 l0_8 l0_9
theorem spec_OneAll.mono_l : ∀ k, (∀ y0 y1 y2 y3 y4 y5 y6 y7 y8 y9 y10 y11, LeO (spec_OneAll.l0 k y0 y1 y2 y3 y4 y5 y6 y7 y8 y9 y10 y11) (spec_OneAll.l0 (k + 1) y0 y1 y2 y3 y4 y5 y6 y7 y8 y9 y10 y11))
  | 0 => fun _ _ _ _ _ _ _ _ _ _ _ _ r h => by simp [spec_OneAll.l0] at h
  | k + 1 => by
    have ih0 := spec_OneAll.mono_l k
    · intro y0 y1 y2 y3 y4 y5 y6 y7 y8 y9 y10 y11
      unfold spec_OneAll.l0
      repeat' first
      | (with_reducible exact ih0 _ _ _ _ _ _ _ _ _ _ _ _)
      | (with_reducible exact spec_OneFits.mono _ _ _ _ _ _ _ _ _ _ _ _ _ _ _)
      | (with_reducible exact LeO.refl _)
      | (with_reducible exact LeO.none _)
      | (with_reducible refine LeO.ite ?_ ?_)
      | (with_reducible refine LeO.bind ?_ (fun _ => ?_))
      | exact ih0 _ _ _ _ _ _ _ _ _ _ _ _
      | exact spec_OneFits.mono _ _ _ _ _ _ _ _ _ _ _ _ _ _ _
      | exact LeO.none _
      | refine LeO.ite ?_ ?_
      | refine LeO.bind ?_ (fun _ => ?_)
theorem spec_OneAll.mono : ∀ a0 a1 a2 a3 a4 a5 a6 a7 a8 a9 a10 k, LeO (spec_OneAll.f k a0 a1 a2 a3 a4 a5 a6 a7 a8 a9 a10) (spec_OneAll.f (k + 1) a0 a1 a2 a3 a4 a5 a6 a7 a8 a9 a10) := by
  intro a0 a1 a2 a3 a4 a5 a6 a7 a8 a9 a10 k
  have ih0 := spec_OneAll.mono_l k
  unfold spec_OneAll.f
  repeat' first
      | (with_reducible exact ih0 _ _ _ _ _ _ _ _ _ _ _ _)
      | (with_reducible exact spec_OneFits.mono _ _ _ _ _ _ _ _ _ _ _ _ _ _ _)
      | (with_reducible exact LeO.refl _)
      | (with_reducible exact LeO.none _)
      | (with_reducible refine LeO.ite ?_ ?_)
      | (with_reducible refine LeO.bind ?_ (fun _ => ?_))
      | exact ih0 _ _ _ _ _ _ _ _ _ _ _ _
      | exact spec_OneFits.mono _ _ _ _ _ _ _ _ _ _ _ _ _ _ _
      | exact LeO.none _
      | refine LeO.ite ?_ ?_
      | refine LeO.bind ?_ (fun _ => ?_)
set_option maxHeartbeats 8000000 in
set_option maxRecDepth 100000 in
theorem spec_OneAll.calls (k : Nat) (a0_0 : Int) (a0_1 : Int) (a0_2 : Bool) (a0_3 : Int) (a0_4 : Int) (a0_5 : Int) (a0_6 : ByteArray) (a0_7 : Bool) (A0_8 : Option Addr) (c0_8 : Nat) (l0_8 : List Int) (A0_9 : Option Addr) (c0_9 : Nat) (l0_9 : List Int) (A1 : Option Addr) (c1 : Nat) (l1 : List (S25)) (r : Bool) (w : World) (hr0_8 : Kd.C (Kd.int .i64) w A0_8 l0_8.length l0_8) (hc0_8 : l0_8.length ≤ c0_8) (hr0_9 : Kd.C (Kd.int .i64) w A0_9 l0_9.length l0_9) (hc0_9 : l0_9.length ≤ c0_9) (hr1 : Kd.C k25 w A1 l1.length l1) (hc1 : l1.length ≤ c1) (h : spec_OneAll.f k a0_0 a0_1 a0_2 a0_3 a0_4 a0_5 a0_6 a0_7 l0_8 l0_9 l1 = some r) :
    Calls Tryz.prog 11 #[.agg #[.int .i64 a0_0, .int .i64 a0_1, .bool a0_2, .int .i64 a0_3, .int .i64 a0_4, .int .i64 a0_5, .string a0_6, .bool a0_7, .slice A0_8 l0_8.length c0_8, .slice A0_9 l0_9.length c0_9], .slice A1 l1.length c1] w fun e w' => e = .returned (.bool r) ∧ Below w.heap.size w w' := by
  have hu32 := Tryz.underlying32
  have hu25 := Tryz.underlying25
  have HR0_8 := Aside0.mk hr0_8
  have HC0_8 := Aside0.mk hc0_8
  clear hr0_8 hc0_8
  have HR0_9 := Aside0.mk hr0_9
  have HC0_9 := Aside0.mk hc0_9
  clear hr0_9 hc0_9
  have HR1 := Aside0.mk hr1
  have HC1 := Aside0.mk hc1
  clear hr1 hc1
  have HB := Aside0.mk (Below.refl w.heap.size w)
  have H : (spec_OneAll.l0 k l1 0 a0_0 a0_1 a0_2 a0_3 a0_4 a0_5 a0_6 a0_7 l0_8 l0_9) = some r := h
  clear h
  have H' := Aside0.mk H
  clear H
  go_enter Tryz.func11, Tryz.ntmps11
  go_wp2_with (first | ((with_reducible refine gate_dst (N := 2) rfl ?_); refine box_event ?hg (N := 2) ?hd (cs := #[.int .i64 a0_0, .int .i64 a0_1, .bool a0_2, .int .i64 a0_3, .int .i64 a0_4, .int .i64 a0_5, .string a0_6, .bool a0_7, .slice A0_8 l0_8.length c0_8, .slice A0_9 l0_9.length c0_9]) (t := 32) ?hr ?_; (case hd => rfl); (case hg => rfl); (case hr => first | (go_simp; done) | (go_simp; rfl)); intro gb120 hg w3 hbox hb; have n0_ := Aside0.mk (below_step (by repeat (first | (with_reducible first | exact HB.out | apply below_alloc | apply pw_below_drewN | apply below_drew1) | exact HB.out)) hb); have n1_ := Aside0.mk (hbox); have n2_ := Aside0.mk ((by rw [hg]; exact (below_size (by repeat (first | (with_reducible first | exact HB.out | apply below_alloc | apply pw_below_drewN | apply below_drew1) | exact HB.out))) : w.heap.size ≤ gb120)); have n3_ := Aside0.mk ((by rw [hg]; exact (below_size (by repeat (first | (with_reducible first | exact HB.out | apply below_alloc | apply pw_below_drewN | apply below_drew1) | exact HB.out))) : w.heap.size ≤ gb120)); clear HB; have HB := n0_; have BK120 := n1_; have GW120 := n2_; have GE120 := n3_; clear n0_ n1_ n2_ n3_; clear hb hbox hg))
  go_loopg [5] k (fun kq v5 w' => ∃ (x5_1 : Int), v5 = .int .i64 x5_1 ∧ Aside0 (spec_OneAll.l0 kq l1 x5_1 a0_0 a0_1 a0_2 a0_3 a0_4 a0_5 a0_6 a0_7 l0_8 l0_9 = some r) ∧ Aside0 (kq ≤ k) ∧ Aside0 (w'.heap[gb120]? = some (.cells #[.int .i64 a0_0, .int .i64 a0_1, .bool a0_2, .int .i64 a0_3, .int .i64 a0_4, .int .i64 a0_5, .string a0_6, .bool a0_7, (.slice A0_8 l0_8.length c0_8), (.slice A0_9 l0_9.length c0_9)] 32 (0, 0))) ∧ Aside0 (Below w.heap.size w w'))
  case atStart => exact ⟨(0), (by first | rfl | (simp; done) | (simp [*]; done)), H', ⟨Nat.le_refl _⟩, ⟨by (with_reducible repeat (first | refine blk_drewN ?_ _ | refine blk_drew ?_ | refine blk_alloc ?_ _)); exact BK120.out⟩, ⟨by repeat (first | (with_reducible first | exact HB.out | apply below_alloc | apply pw_below_drewN | apply below_drew1 | refine below_set ?_ GE120.out) | exact HB.out)⟩⟩
  case round =>
    clear H'
    try clear c1
    try clear p2
    obtain ⟨x5_1, rfl, HA, HK1, BK120, HB⟩ := hrel
    cases gk with
    | zero => exact absurd HA.out (by simp [spec_OneAll.l0])
    | succ k1 =>
      have H := HA.out
      clear HA
      simp only [spec_OneAll.l0] at H
      by_cases c4 : x5_1 < (l1.length : Int)
      · rw [if_pos c4] at H
        have c4b0 : decide (x5_1 < (l1.length : Int)) = true := decide_eq_true c4
        clear c4
        by_cases c5 : 0 ≤ x5_1
        · rw [if_pos c5] at H
          have c5b0 : decide (0 ≤ x5_1) = true := decide_eq_true c5
          clear c5
          replace H := Option.bind_eq_some_iff.mp H
          obtain ⟨t122, A60, H⟩ := H
          replace H : (if t122 = true then (spec_OneAll.l0 k1 l1 (wrap64 (x5_1 + 1)) a0_0 a0_1 a0_2 a0_3 a0_4 a0_5 a0_6 a0_7 l0_8 l0_9) else (some false)) = some r := H
          have A6 := Aside0.mk A60
          clear A60
          by_cases c7 : t122 = true
          · subst c7
            have H1 : (spec_OneAll.l0 k1 l1 (wrap64 (x5_1 + 1)) a0_0 a0_1 a0_2 a0_3 a0_4 a0_5 a0_6 a0_7 l0_8 l0_9) = some r := by rw [if_pos rfl] at H; exact H
            clear H
            have H := H1
            clear H1
            have H' := Aside0.mk H
            clear H
            try go_wp2
            have n0_ := Aside0.mk (blk_drew BK120.out)
            have n1_ := Aside0.mk (below_drew1 HB.out)
            clear BK120
            clear HB
            have BK120 := n0_
            have HB := n1_
            clear n0_ n1_
            have p121 : 0 ≤ (x5_1 : Int) := of_decide_eq_true (by first | (with_reducible assumption) | assumption)
            have q121 : x5_1 < (l1.length : Int) := of_decide_eq_true (by first | (with_reducible assumption) | assumption)
            obtain ⟨ad121, A121_3, c121_3, e121, hx121_0, hx121_1, hx121_2, hx121_3, hl121_3, hi121_3⟩ := at_T25 HR1.out x5_1 p121 q121
            have hw121_3 := hx121_3
            have hw121_2 := hx121_2
            have hw121_1 := hx121_1
            have hw121_0 := hx121_0
            cases e121
            replace hx121_0 := (HB.out.cell (World.block_lt_of_cell? w _ hx121_0)).trans hx121_0
            replace hx121_1 := (HB.out.cell (World.block_lt_of_cell? w _ hx121_1)).trans hx121_1
            replace hx121_2 := (HB.out.cell (World.block_lt_of_cell? w _ hx121_2)).trans hx121_2
            replace hx121_3 := (HB.out.cell (World.block_lt_of_cell? w _ hx121_3)).trans hx121_3
            have HR121_3 := Aside0.mk hi121_3
            have HC121_3 := Aside0.mk hl121_3
            clear hi121_3 hl121_3
            replace p121 := eq_true p121
            replace q121 := eq_true q121
            refine start_ (n := 7) (S := fun w' => w'.cell? ⟨gb120, 0, none⟩ = some (.int .i64 a0_0) ∧ w'.cell? ⟨gb120, 1, none⟩ = some (.int .i64 a0_1) ∧ w'.cell? ⟨gb120, 2, none⟩ = some (.bool a0_2) ∧ w'.cell? ⟨gb120, 3, none⟩ = some (.int .i64 a0_3) ∧ w'.cell? ⟨gb120, 4, none⟩ = some (.int .i64 a0_4) ∧ w'.cell? ⟨gb120, 5, none⟩ = some (.int .i64 a0_5) ∧ w'.cell? ⟨gb120, 6, none⟩ = some (.string a0_6) ∧ w'.cell? ⟨gb120, 7, none⟩ = some (.bool a0_7) ∧ w'.cell? ⟨gb120, 8, none⟩ = some (.slice A0_8 l0_8.length c0_8) ∧ w'.cell? ⟨gb120, 9, none⟩ = some (.slice A0_9 l0_9.length c0_9) ∧ w'.cell? (ad121.add ((x5_1).toNat * 4)) = some (.bool ((rd_T25 l1 x5_1).f0)) ∧ w'.cell? ⟨(ad121.add ((x5_1).toNat * 4)).block, (ad121.add ((x5_1).toNat * 4)).off + 1, none⟩ = some (.int .u64 ((rd_T25 l1 x5_1).f1)) ∧ w'.cell? ⟨(ad121.add ((x5_1).toNat * 4)).block, (ad121.add ((x5_1).toNat * 4)).off + 2, none⟩ = some (.string ((rd_T25 l1 x5_1).f2)) ∧ w'.cell? ⟨(ad121.add ((x5_1).toNat * 4)).block, (ad121.add ((x5_1).toNat * 4)).off + 3, none⟩ = some (.slice A121_3 ((rd_T25 l1 x5_1).f3).length c121_3)) (ds := []) #[false, false, false, false, false, false, false] (by kernel_rfl) rfl rfl ⟨(blk_cell BK120.out 0).trans rfl, (blk_cell BK120.out 1).trans rfl, (blk_cell BK120.out 2).trans rfl, (blk_cell BK120.out 3).trans rfl, (blk_cell BK120.out 4).trans rfl, (blk_cell BK120.out 5).trans rfl, (blk_cell BK120.out 6).trans rfl, (blk_cell BK120.out 7).trans rfl, (blk_cell BK120.out 8).trans rfl, (blk_cell BK120.out 9).trans rfl, ((HB.out.cell (World.block_lt_of_cell? w _ hw121_0)).trans hw121_0), ((HB.out.cell (World.block_lt_of_cell? w _ hw121_1)).trans hw121_1), ((HB.out.cell (World.block_lt_of_cell? w _ hw121_2)).trans hw121_2), ((HB.out.cell (World.block_lt_of_cell? w _ hw121_3)).trans hw121_3)⟩ (fun hHeld => ?_)
            generalize wr.drew = w8 at BK120 HB HR121_3 hx121_0 hx121_1 hx121_2 hx121_3 hHeld ⊢
            refine pure_ (i := 1) (N := some 13) (v := ?_) (a' := ?_) #[false, true, false, false, false, false, false] rfl rfl (by kernel_rfl) (fun _ _ _ h => h) (Or.inl ⟨by rfl, ?_⟩) ?_ ?_
            rotate_left
            · intro w'
              go_simp
              with_reducible rfl
            rotate_left
            · simp only [Act.put, List.setIfInBounds_toArray, List.set_cons_zero, List.set_cons_succ, i64_w, i32_w]
              rfl
            refine pure_ (i := 2) (N := some 14) (v := ?_) (a' := ?_) #[false, true, true, false, false, false, false] rfl rfl (by kernel_rfl) (fun _ _ _ h => h) (Or.inl ⟨by rfl, ?_⟩) ?_ ?_
            rotate_left
            · intro w'
              go_simp
              with_reducible rfl
            rotate_left
            · simp only [Act.put, List.setIfInBounds_toArray, List.set_cons_zero, List.set_cons_succ, i64_w, i32_w]
              rfl
            refine pure_ (i := 3) (N := some 15) (v := ?_) (a' := ?_) #[false, true, true, true, false, false, false] rfl rfl (by kernel_rfl) (fun _ _ _ h => h) (Or.inl ⟨by rfl, ?_⟩) ?_ ?_
            rotate_left
            · intro w'
              go_simp
              with_reducible rfl
            rotate_left
            · simp only [Act.put, List.setIfInBounds_toArray, List.set_cons_zero, List.set_cons_succ, i64_w, i32_w]
              rfl
            refine take_ (i := 0) (N := some 12) (v := ?_) (a' := ?_) #[true, true, true, true, false, false, false] rfl rfl (by kernel_rfl) (fun _ _ _ h => h) (Or.inl ⟨by rfl, ?_⟩) hHeld ?_ ?_
            rotate_left
            · rintro w' ⟨s0, s1, s2, s3, s4, s5, s6, s7, s8, s9, s10, s11, s12, s13⟩
              go_simp
              with_reducible rfl
            rotate_left
            · simp only [Act.put, List.setIfInBounds_toArray, List.set_cons_zero, List.set_cons_succ, i64_w, i32_w]
              rfl
            refine take_ (i := 4) (N := some 16) (v := ?_) (a' := ?_) #[true, true, true, true, true, false, false] rfl rfl (by kernel_rfl) (fun _ _ _ h => h) (Or.inl ⟨by rfl, ?_⟩) hHeld ?_ ?_
            rotate_left
            · rintro w' ⟨s0, s1, s2, s3, s4, s5, s6, s7, s8, s9, s10, s11, s12, s13⟩
              go_simp
              with_reducible rfl
            rotate_left
            · simp only [Act.put, List.setIfInBounds_toArray, List.set_cons_zero, List.set_cons_succ, i64_w, i32_w]
              rfl
            refine one_ (i := 5) (N := some 17) #[true, true, true, true, true, true, false] rfl rfl (by kernel_rfl) (by decide) (fun K hK => ?_)
            refine goes_ Tryz.func25 (by kernel_rfl) rfl #[.agg #[.int .i64 a0_0, .int .i64 a0_1, .bool a0_2, .int .i64 a0_3, .int .i64 a0_4, .int .i64 a0_5, .string a0_6, .bool a0_7, .slice A0_8 l0_8.length c0_8, .slice A0_9 l0_9.length c0_9], .agg #[.bool ((rd_T25 l1 x5_1).f0), .int .u64 ((rd_T25 l1 x5_1).f1), .string ((rd_T25 l1 x5_1).f2), .slice A121_3 ((rd_T25 l1 x5_1).f3).length c121_3]] (by rfl) rfl rfl (by (try simp only [List.map_toArray, List.map_cons, List.map_nil]); first | done | rfl | (simp only [List.length_drop, List.length_take]; rfl)) ?_
            with_reducible refine (spec_OneFits.calls k1 a0_0 a0_1 a0_2 a0_3 a0_4 a0_5 a0_6 a0_7 _ _ l0_8 _ _ l0_9 ((rd_T25 l1 x5_1).f0) ((rd_T25 l1 x5_1).f1) ((rd_T25 l1 x5_1).f2) _ _ ((rd_T25 l1 x5_1).f3) true _ ?side1 ?side2 ?side3 ?side4 ?side5 ?side6 A6.out).mono ?_
            (case side1 => repeat (first | exact (Kd.C_below HR0_8.out HB.out) | (with_reducible refine Kd.C_alloc ?_ _) | (with_reducible refine Kd.C_drewN ?_ _) | (with_reducible refine Kd.C_drew ?_)))
            (case side2 => exact HC0_8.out)
            (case side3 => repeat (first | exact (Kd.C_below HR0_9.out HB.out) | (with_reducible refine Kd.C_alloc ?_ _) | (with_reducible refine Kd.C_drewN ?_ _) | (with_reducible refine Kd.C_drew ?_)))
            (case side4 => exact HC0_9.out)
            (case side5 => repeat (first | exact (Kd.C_below HR121_3.out HB.out) | (with_reducible refine Kd.C_alloc ?_ _) | (with_reducible refine Kd.C_drewN ?_ _) | (with_reducible refine Kd.C_drew ?_)))
            (case side6 => exact HC121_3.out)
            rintro e w9 ⟨rfl, hb⟩
            refine ⟨_, rfl, ?_⟩
            have n0_ := Aside0.mk (blk_below (g := gb120) (o := .cells #[.int .i64 a0_0, .int .i64 a0_1, .bool a0_2, .int .i64 a0_3, .int .i64 a0_4, .int .i64 a0_5, .string a0_6, .bool a0_7, .slice A0_8 l0_8.length c0_8, .slice A0_9 l0_9.length c0_9] 32 (0, 0)) (by (with_reducible repeat (first | refine blk_drewN ?_ _ | refine blk_drew ?_ | refine blk_alloc ?_ _)); exact BK120.out) hb)
            have n1_ := Aside0.mk (below_step (by repeat (first | (with_reducible first | exact HB.out | apply below_alloc | apply pw_below_drewN | apply below_drew1 | refine below_set ?_ GE120.out) | exact HB.out)) hb)
            clear BK120
            clear HB
            have BK120 := n0_
            have HB := n1_
            clear n0_ n1_
            (try clear hb)
            (try clear hb2)
            (try clear hk)
            (try clear hi)
            refine hK.out _ _ ⟨(blk_cell BK120.out 0).trans rfl, (blk_cell BK120.out 1).trans rfl, (blk_cell BK120.out 2).trans rfl, (blk_cell BK120.out 3).trans rfl, (blk_cell BK120.out 4).trans rfl, (blk_cell BK120.out 5).trans rfl, (blk_cell BK120.out 6).trans rfl, (blk_cell BK120.out 7).trans rfl, (blk_cell BK120.out 8).trans rfl, (blk_cell BK120.out 9).trans rfl, ((HB.out.cell (World.block_lt_of_cell? w _ hw121_0)).trans hw121_0), ((HB.out.cell (World.block_lt_of_cell? w _ hw121_1)).trans hw121_1), ((HB.out.cell (World.block_lt_of_cell? w _ hw121_2)).trans hw121_2), ((HB.out.cell (World.block_lt_of_cell? w _ hw121_3)).trans hw121_3)⟩ (fun hHeld => ?_)
            clear hK K
            refine norm_ (a' := ?_) ?_ ?_
            rotate_left
            · show Act.put _ (some 17) _ = _
              simp only [Act.put, List.setIfInBounds_toArray, List.set_cons_zero, List.set_cons_succ, i64_w, i32_w]
              rfl
            refine pure_ (i := 6) (N := some 18) (v := ?_) (a' := ?_) #[true, true, true, true, true, true, true] rfl rfl (by kernel_rfl) (fun _ _ _ h => h) (Or.inl ⟨by rfl, ?_⟩) ?_ ?_
            rotate_left
            · intro w'
              go_simp
              with_reducible rfl
            rotate_left
            · simp only [Act.put, List.setIfInBounds_toArray, List.set_cons_zero, List.set_cons_succ, i64_w, i32_w]
              rfl
            refine done_ (by kernel_rfl) ?_
            try go_wp2
            go_roundg k1
            case measure => have := HK1.out; omega
            case rel => exact ⟨(wrap64 (x5_1 + 1)), (by first | rfl | (simp; done) | (simp [*]; done)), H', ⟨by have := HK1.out; omega⟩, ⟨by (with_reducible repeat (first | refine blk_drewN ?_ _ | refine blk_drew ?_ | refine blk_alloc ?_ _)); exact BK120.out⟩, ⟨by repeat (first | (with_reducible first | exact HB.out | apply below_alloc | apply pw_below_drewN | apply below_drew1 | refine below_set ?_ GE120.out) | exact HB.out)⟩⟩
          · replace c7 := Bool.eq_false_iff.mpr c7
            subst c7
            have H1 : (some false) = some r := by rw [if_neg (show ¬ (false = true) by decide)] at H; exact H
            clear H
            have H := H1
            clear H1
            obtain rfl := Option.some.inj H
            try go_wp2
            have n0_ := Aside0.mk (blk_drew BK120.out)
            have n1_ := Aside0.mk (below_drew1 HB.out)
            clear BK120
            clear HB
            have BK120 := n0_
            have HB := n1_
            clear n0_ n1_
            have p121 : 0 ≤ (x5_1 : Int) := of_decide_eq_true (by first | (with_reducible assumption) | assumption)
            have q121 : x5_1 < (l1.length : Int) := of_decide_eq_true (by first | (with_reducible assumption) | assumption)
            obtain ⟨ad121, A121_3, c121_3, e121, hx121_0, hx121_1, hx121_2, hx121_3, hl121_3, hi121_3⟩ := at_T25 HR1.out x5_1 p121 q121
            have hw121_3 := hx121_3
            have hw121_2 := hx121_2
            have hw121_1 := hx121_1
            have hw121_0 := hx121_0
            cases e121
            replace hx121_0 := (HB.out.cell (World.block_lt_of_cell? w _ hx121_0)).trans hx121_0
            replace hx121_1 := (HB.out.cell (World.block_lt_of_cell? w _ hx121_1)).trans hx121_1
            replace hx121_2 := (HB.out.cell (World.block_lt_of_cell? w _ hx121_2)).trans hx121_2
            replace hx121_3 := (HB.out.cell (World.block_lt_of_cell? w _ hx121_3)).trans hx121_3
            have HR121_3 := Aside0.mk hi121_3
            have HC121_3 := Aside0.mk hl121_3
            clear hi121_3 hl121_3
            replace p121 := eq_true p121
            replace q121 := eq_true q121
            refine start_ (n := 7) (S := fun w' => w'.cell? ⟨gb120, 0, none⟩ = some (.int .i64 a0_0) ∧ w'.cell? ⟨gb120, 1, none⟩ = some (.int .i64 a0_1) ∧ w'.cell? ⟨gb120, 2, none⟩ = some (.bool a0_2) ∧ w'.cell? ⟨gb120, 3, none⟩ = some (.int .i64 a0_3) ∧ w'.cell? ⟨gb120, 4, none⟩ = some (.int .i64 a0_4) ∧ w'.cell? ⟨gb120, 5, none⟩ = some (.int .i64 a0_5) ∧ w'.cell? ⟨gb120, 6, none⟩ = some (.string a0_6) ∧ w'.cell? ⟨gb120, 7, none⟩ = some (.bool a0_7) ∧ w'.cell? ⟨gb120, 8, none⟩ = some (.slice A0_8 l0_8.length c0_8) ∧ w'.cell? ⟨gb120, 9, none⟩ = some (.slice A0_9 l0_9.length c0_9) ∧ w'.cell? (ad121.add ((x5_1).toNat * 4)) = some (.bool ((rd_T25 l1 x5_1).f0)) ∧ w'.cell? ⟨(ad121.add ((x5_1).toNat * 4)).block, (ad121.add ((x5_1).toNat * 4)).off + 1, none⟩ = some (.int .u64 ((rd_T25 l1 x5_1).f1)) ∧ w'.cell? ⟨(ad121.add ((x5_1).toNat * 4)).block, (ad121.add ((x5_1).toNat * 4)).off + 2, none⟩ = some (.string ((rd_T25 l1 x5_1).f2)) ∧ w'.cell? ⟨(ad121.add ((x5_1).toNat * 4)).block, (ad121.add ((x5_1).toNat * 4)).off + 3, none⟩ = some (.slice A121_3 ((rd_T25 l1 x5_1).f3).length c121_3)) (ds := []) #[false, false, false, false, false, false, false] (by kernel_rfl) rfl rfl ⟨(blk_cell BK120.out 0).trans rfl, (blk_cell BK120.out 1).trans rfl, (blk_cell BK120.out 2).trans rfl, (blk_cell BK120.out 3).trans rfl, (blk_cell BK120.out 4).trans rfl, (blk_cell BK120.out 5).trans rfl, (blk_cell BK120.out 6).trans rfl, (blk_cell BK120.out 7).trans rfl, (blk_cell BK120.out 8).trans rfl, (blk_cell BK120.out 9).trans rfl, ((HB.out.cell (World.block_lt_of_cell? w _ hw121_0)).trans hw121_0), ((HB.out.cell (World.block_lt_of_cell? w _ hw121_1)).trans hw121_1), ((HB.out.cell (World.block_lt_of_cell? w _ hw121_2)).trans hw121_2), ((HB.out.cell (World.block_lt_of_cell? w _ hw121_3)).trans hw121_3)⟩ (fun hHeld => ?_)
            generalize wr.drew = w10 at BK120 HB HR121_3 hx121_0 hx121_1 hx121_2 hx121_3 hHeld ⊢
            refine pure_ (i := 1) (N := some 13) (v := ?_) (a' := ?_) #[false, true, false, false, false, false, false] rfl rfl (by kernel_rfl) (fun _ _ _ h => h) (Or.inl ⟨by rfl, ?_⟩) ?_ ?_
            rotate_left
            · intro w'
              go_simp
              with_reducible rfl
            rotate_left
            · simp only [Act.put, List.setIfInBounds_toArray, List.set_cons_zero, List.set_cons_succ, i64_w, i32_w]
              rfl
            refine pure_ (i := 2) (N := some 14) (v := ?_) (a' := ?_) #[false, true, true, false, false, false, false] rfl rfl (by kernel_rfl) (fun _ _ _ h => h) (Or.inl ⟨by rfl, ?_⟩) ?_ ?_
            rotate_left
            · intro w'
              go_simp
              with_reducible rfl
            rotate_left
            · simp only [Act.put, List.setIfInBounds_toArray, List.set_cons_zero, List.set_cons_succ, i64_w, i32_w]
              rfl
            refine pure_ (i := 3) (N := some 15) (v := ?_) (a' := ?_) #[false, true, true, true, false, false, false] rfl rfl (by kernel_rfl) (fun _ _ _ h => h) (Or.inl ⟨by rfl, ?_⟩) ?_ ?_
            rotate_left
            · intro w'
              go_simp
              with_reducible rfl
            rotate_left
            · simp only [Act.put, List.setIfInBounds_toArray, List.set_cons_zero, List.set_cons_succ, i64_w, i32_w]
              rfl
            refine take_ (i := 0) (N := some 12) (v := ?_) (a' := ?_) #[true, true, true, true, false, false, false] rfl rfl (by kernel_rfl) (fun _ _ _ h => h) (Or.inl ⟨by rfl, ?_⟩) hHeld ?_ ?_
            rotate_left
            · rintro w' ⟨s0, s1, s2, s3, s4, s5, s6, s7, s8, s9, s10, s11, s12, s13⟩
              go_simp
              with_reducible rfl
            rotate_left
            · simp only [Act.put, List.setIfInBounds_toArray, List.set_cons_zero, List.set_cons_succ, i64_w, i32_w]
              rfl
            refine take_ (i := 4) (N := some 16) (v := ?_) (a' := ?_) #[true, true, true, true, true, false, false] rfl rfl (by kernel_rfl) (fun _ _ _ h => h) (Or.inl ⟨by rfl, ?_⟩) hHeld ?_ ?_
            rotate_left
            · rintro w' ⟨s0, s1, s2, s3, s4, s5, s6, s7, s8, s9, s10, s11, s12, s13⟩
              go_simp
              with_reducible rfl
            rotate_left
            · simp only [Act.put, List.setIfInBounds_toArray, List.set_cons_zero, List.set_cons_succ, i64_w, i32_w]
              rfl
            refine one_ (i := 5) (N := some 17) #[true, true, true, true, true, true, false] rfl rfl (by kernel_rfl) (by decide) (fun K hK => ?_)
            refine goes_ Tryz.func25 (by kernel_rfl) rfl #[.agg #[.int .i64 a0_0, .int .i64 a0_1, .bool a0_2, .int .i64 a0_3, .int .i64 a0_4, .int .i64 a0_5, .string a0_6, .bool a0_7, .slice A0_8 l0_8.length c0_8, .slice A0_9 l0_9.length c0_9], .agg #[.bool ((rd_T25 l1 x5_1).f0), .int .u64 ((rd_T25 l1 x5_1).f1), .string ((rd_T25 l1 x5_1).f2), .slice A121_3 ((rd_T25 l1 x5_1).f3).length c121_3]] (by rfl) rfl rfl (by (try simp only [List.map_toArray, List.map_cons, List.map_nil]); first | done | rfl | (simp only [List.length_drop, List.length_take]; rfl)) ?_
            with_reducible refine (spec_OneFits.calls k1 a0_0 a0_1 a0_2 a0_3 a0_4 a0_5 a0_6 a0_7 _ _ l0_8 _ _ l0_9 ((rd_T25 l1 x5_1).f0) ((rd_T25 l1 x5_1).f1) ((rd_T25 l1 x5_1).f2) _ _ ((rd_T25 l1 x5_1).f3) false _ ?side1 ?side2 ?side3 ?side4 ?side5 ?side6 A6.out).mono ?_
            (case side1 => repeat (first | exact (Kd.C_below HR0_8.out HB.out) | (with_reducible refine Kd.C_alloc ?_ _) | (with_reducible refine Kd.C_drewN ?_ _) | (with_reducible refine Kd.C_drew ?_)))
            (case side2 => exact HC0_8.out)
            (case side3 => repeat (first | exact (Kd.C_below HR0_9.out HB.out) | (with_reducible refine Kd.C_alloc ?_ _) | (with_reducible refine Kd.C_drewN ?_ _) | (with_reducible refine Kd.C_drew ?_)))
            (case side4 => exact HC0_9.out)
            (case side5 => repeat (first | exact (Kd.C_below HR121_3.out HB.out) | (with_reducible refine Kd.C_alloc ?_ _) | (with_reducible refine Kd.C_drewN ?_ _) | (with_reducible refine Kd.C_drew ?_)))
            (case side6 => exact HC121_3.out)
            rintro e w11 ⟨rfl, hb⟩
            refine ⟨_, rfl, ?_⟩
            have n0_ := Aside0.mk (blk_below (g := gb120) (o := .cells #[.int .i64 a0_0, .int .i64 a0_1, .bool a0_2, .int .i64 a0_3, .int .i64 a0_4, .int .i64 a0_5, .string a0_6, .bool a0_7, .slice A0_8 l0_8.length c0_8, .slice A0_9 l0_9.length c0_9] 32 (0, 0)) (by (with_reducible repeat (first | refine blk_drewN ?_ _ | refine blk_drew ?_ | refine blk_alloc ?_ _)); exact BK120.out) hb)
            have n1_ := Aside0.mk (below_step (by repeat (first | (with_reducible first | exact HB.out | apply below_alloc | apply pw_below_drewN | apply below_drew1 | refine below_set ?_ GE120.out) | exact HB.out)) hb)
            clear BK120
            clear HB
            have BK120 := n0_
            have HB := n1_
            clear n0_ n1_
            (try clear hb)
            (try clear hb2)
            (try clear hk)
            (try clear hi)
            refine hK.out _ _ ⟨(blk_cell BK120.out 0).trans rfl, (blk_cell BK120.out 1).trans rfl, (blk_cell BK120.out 2).trans rfl, (blk_cell BK120.out 3).trans rfl, (blk_cell BK120.out 4).trans rfl, (blk_cell BK120.out 5).trans rfl, (blk_cell BK120.out 6).trans rfl, (blk_cell BK120.out 7).trans rfl, (blk_cell BK120.out 8).trans rfl, (blk_cell BK120.out 9).trans rfl, ((HB.out.cell (World.block_lt_of_cell? w _ hw121_0)).trans hw121_0), ((HB.out.cell (World.block_lt_of_cell? w _ hw121_1)).trans hw121_1), ((HB.out.cell (World.block_lt_of_cell? w _ hw121_2)).trans hw121_2), ((HB.out.cell (World.block_lt_of_cell? w _ hw121_3)).trans hw121_3)⟩ (fun hHeld => ?_)
            clear hK K
            refine norm_ (a' := ?_) ?_ ?_
            rotate_left
            · show Act.put _ (some 17) _ = _
              simp only [Act.put, List.setIfInBounds_toArray, List.set_cons_zero, List.set_cons_succ, i64_w, i32_w]
              rfl
            refine pure_ (i := 6) (N := some 18) (v := ?_) (a' := ?_) #[true, true, true, true, true, true, true] rfl rfl (by kernel_rfl) (fun _ _ _ h => h) (Or.inl ⟨by rfl, ?_⟩) ?_ ?_
            rotate_left
            · intro w'
              go_simp
              with_reducible rfl
            rotate_left
            · simp only [Act.put, List.setIfInBounds_toArray, List.set_cons_zero, List.set_cons_succ, i64_w, i32_w]
              rfl
            refine done_ (by kernel_rfl) ?_
            try go_wp2
            go_ret
            exact ⟨by first | rfl | (simp [errW_none, errW_some] <;> rfl) | (simp [*, errW_none, errW_some] <;> rfl), by repeat (first | (with_reducible first | exact HB.out | apply below_alloc | apply pw_below_drewN | apply below_drew1 | refine below_set ?_ GE120.out) | exact HB.out)⟩
        · rw [if_neg c5] at H
          exact absurd H (by simp)
      · rw [if_neg c4] at H
        have c4b0 : decide (x5_1 < (l1.length : Int)) = false := decide_eq_false c4
        clear c4
        obtain rfl := Option.some.inj H
        go_wp2
        go_ret
        exact ⟨by first | rfl | (simp [errW_none, errW_some] <;> rfl) | (simp [*, errW_none, errW_some] <;> rfl), by repeat (first | (with_reducible first | exact HB.out | apply below_alloc | apply pw_below_drewN | apply below_drew1 | refine below_set ?_ GE120.out) | exact HB.out)⟩

/-! ### spec_Slice: function 12 -/
def spec_Slice.f (a0 : Int) (a1 : Int) (a2 : Int) : Option (Bool) := if a0 ≥ 0 then (if a1 ≥ a0 then (some (decide (a1 ≤ a2))) else (some false)) else (some false)
set_option maxHeartbeats 8000000 in
set_option maxRecDepth 100000 in
theorem spec_Slice.calls (a0 : Int) (a1 : Int) (a2 : Int) (r : Bool) (w : World) (h : spec_Slice.f a0 a1 a2 = some r) :
    Calls Tryz.prog 12 #[.int .i64 a0, .int .i64 a1, .int .i64 a2] w fun e w' => e = .returned (.bool r) ∧ Drawn0 w w' := by
  have H : (if a0 ≥ 0 then (if a1 ≥ a0 then (some (decide (a1 ≤ a2))) else (some false)) else (some false)) = some r := h
  clear h
  by_cases c4 : a0 ≥ 0
  · rw [if_pos c4] at H
    have c4b0 : decide (0 ≤ a0) = true := decide_eq_true c4
    clear c4
    by_cases c5 : a1 ≥ a0
    · rw [if_pos c5] at H
      have c5b0 : decide (a0 ≤ a1) = true := decide_eq_true c5
      clear c5
      obtain rfl := Option.some.inj H
      go_enter Tryz.func12, Tryz.ntmps12
      go_wp2
      go_ret
      exact ⟨by first | rfl | (simp; done) | (simp [*]; done), by repeat (first | exact Drawn0.refl _ | apply Drawn0.step)⟩
    · rw [if_neg c5] at H
      have c5b0 : decide (a0 ≤ a1) = false := decide_eq_false c5
      clear c5
      obtain rfl := Option.some.inj H
      go_enter Tryz.func12, Tryz.ntmps12
      go_wp2
      go_ret
      exact ⟨by first | rfl | (simp; done) | (simp [*]; done), by repeat (first | exact Drawn0.refl _ | apply Drawn0.step)⟩
  · rw [if_neg c4] at H
    have c4b0 : decide (0 ≤ a0) = false := decide_eq_false c4
    clear c4
    obtain rfl := Option.some.inj H
    go_enter Tryz.func12, Tryz.ntmps12
    go_wp2
    go_ret
    exact ⟨by first | rfl | (simp; done) | (simp [*]; done), by repeat (first | exact Drawn0.refl _ | apply Drawn0.step)⟩

end Go.Proofs.YtndbeeboehekaaaGreatDoor.Q
